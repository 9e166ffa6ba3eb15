import PyProof.Rows.All
import Wide.All
import OpenK.AllK
import Wide.FinOn
import Open.Tops
import PySem.Challenge.RW_bu5043_01
open PySem PySem.W PyProof.Rows
set_option Elab.async false
set_option maxRecDepth 100000
set_option maxHeartbeats 8000000
set_option linter.unusedVariables false
namespace Mine
open_shared sh for PySem.Challenge.pw_bu5043_01 leaving 1
open_top hd for PySem.Challenge.rw_bu5043_01
end Mine
section
open PySem PySem.W PyProof.Rows PySem.Spec PySem.Calls
namespace Mine

abbrev Led := List (Addr × Obj)
abbrev pr : Program := PySem.Challenge.rw_bu5043_01.row.prog
theorem fill {w : World} {h₀ : Heap} (X : (hd.heap_39 w.params).In h₀) : (hd.heap_39 w.params).In h₀ ∧ PySem.Challenge.rw_bu5043_01 = PySem.Challenge.rw_bu5043_01 := by
  k_fill
  exact ⟨X, rfl⟩

theorem next_c {w : World} {p : Program} {loose : List Str} {mean : ExcName → Option Value} {mg mb : Str → Option Value}
    (dp un : Nat) (gd : Option (List Code)) (cn : Str) (cs : Scope) (a : Addr) (ccd : Value) (cl : List (Str × Addr)) (outer : List Env) (A₀ : Around) (base h₀ : Heap) (L : Addr) (m : Str → Option Value) (s : Shared)
    (Q E : Value → Shared → Prop) (st l : Addr) (vs : List Value) (ns : List Int) (c lim : Int) (tc tl : Tok) (k1 k2 : Nat) (rest : Led)
    (B : Below A₀ base outer h₀) (F : Fr h₀ L s.heap m) (X : (hd.heap_39 w.params).In h₀)
    (N : News h₀ L s.heap ((st, listOf #[.ref l, .int c tc] k1) :: (l, listOf vs.toArray k2) :: rest)) (T : Top p loose mean mg mb h₀)
    (hk : cs.kind = .function) (hI : IntsAre vs ns) (hc : 0 ≤ c) (hc2 : c < 100000) (hl0 : 0 < lim) (hl1 : lim < 1000) (hns : ns.length ≤ 100)
    (hlt : @LT.lt Nat _ l st) (off : OwnOff rest [st])
    (hd' : dp + 2 < recursionLimit) (hu : un + 16 < cLine)
    (hret : ∀ r t tc' k1' h' tk', 0 ≤ r → r < lim → Fr h₀ L h' m → News h₀ L h' ((st, listOf #[.ref l, .int (c + 1) tc'] k1') :: (l, listOf vs.toArray k2) :: rest) → Q (.int r t) { s with heap := h', toks := tk' }) :
    wpAny (model pr w) (ktrTop dp un gd cn cs L a ccd cl outer) (call (.ref 504) [.ref st, .int lim tl]) Q E s := by
  k_with_none
  w_top off
  refine wpAny_call ?_
  k_dflt ktr_enter
  k_steps
  · exact hret _ _ _ _ _ _ (by omega) (by omega) (by assumption) (by assumption)
  · exact hret _ _ _ _ _ _ (by rw [Int.fmod_eq_emod_of_nonneg _ (by omega)]; exact Int.emod_nonneg _ (by omega)) (by rw [Int.fmod_eq_emod_of_nonneg _ (by omega)]; exact Int.emod_lt_of_pos _ hl0) (by assumption) (by assumption)
end Mine
end
section
open PySem PySem.W PyProof.Rows PySem.Spec PySem.Calls
namespace Mine
theorem fill2 {w : World} {h₀ : Heap} (X : (hd.heap_39 w.params).In h₀) : (hd.heap_39 w.params).In h₀ ∧ PySem.Challenge.rw_bu5043_01 = PySem.Challenge.rw_bu5043_01 := by
  k_fill
  exact ⟨X, rfl⟩

theorem list259 {P : Params} {h : Heap} (X : (hd.heap_39 P).In h) : h.IsList 259 #[] := ⟨_, X 259 ⟨.type "list", none, .seq #[] 0, #[]⟩ (by k_is), rfl, 0, rfl⟩
local macro_rules | `(tactic| k_room) => `(tactic| ktr_room)
local macro_rules | `(tactic| walk_at "subscriptTail Name Slice ref ref") => `(tactic| (k_here; (with_reducible show wpAny _ _ (subscriptTail _ (PySem.Expr.Slice none none none _) (Value.ref 259) (Value.ref _)) _ _ _); k_dflt (refine' kms_slice_lit (zs := []) ?F ?N ?l ?p ?q ?e ?_ ?s ?t ?z; (case F => k_asm); (case N => k_asm); (case l => exact list259 (by k_in)); (case p => kmk_part); (case q => kmk_part); (case e => rfl); (case s => with_unfolding_all rfl); (case t => kmk_pure); (case z => kmk_size)); intro D' h' F' N' l1; (try k_lt l1); (try k_sweep)))
def leafEs (P : Params) (t1 t2 t3 t4 t5 t6 t7 : Tok) (nd D : Addr) (em : Str) (te : Tok) (li : Int) (tl : Tok) (co : Int) (tc : Tok) (kind : Int) (tk : Tok) (val : Str) (tv : Tok) : List DictEntry :=
  [⟨PyData.keyHash P (Str.ofString "notes"), .str (Str.ofString "notes") t1, .ref nd⟩,
   ⟨PyData.keyHash P (Str.ofString "_prefix"), .str (Str.ofString "_prefix") t2, .str em te⟩,
   ⟨PyData.keyHash P (Str.ofString "lineno"), .str (Str.ofString "lineno") t3, .int li tl⟩,
   ⟨PyData.keyHash P (Str.ofString "column"), .str (Str.ofString "column") t4, .int co tc⟩,
   ⟨PyData.keyHash P (Str.ofString "type"), .str (Str.ofString "type") t5, .int kind tk⟩,
   ⟨PyData.keyHash P (Str.ofString "value"), .str (Str.ofString "value") t6, .str val tv⟩,
   ⟨PyData.keyHash P (Str.ofString "fixers_applied"), .str (Str.ofString "fixers_applied") t7, .ref D⟩]
structure NoteOk (w : World) (nd : Addr) (on : Obj) : Prop where
  lo : (nd == sysModules) = false
  hs : Obj.IsDictOf (PySem.strKind pr w) on []
  fs : PyProof.V.FlatPairs PyData.str [] []
  hi : Obj.IsDictOf (intKind pr w) on []
  fi : PyProof.V.FlatPairs PyData.int [] []

theorem leaf_c {w : World} {p : Program} {loose : List Str} {mean : ExcName → Option Value} {mg mb : Str → Option Value}
    (dp un : Nat) (gd : Option (List Code)) (cn : Str) (nm : List (Str × NameKind)) (ig ic : Bool) (mr : List (Str × Const)) (a : Addr) (ccd : Value) (cl : List (Str × Addr)) (outer : List Env) (A₀ : Around) (base h₀ : Heap) (L : Addr) (m : Str → Option Value) (s : Shared)
    (Q E : Value → Shared → Prop) (kind li co : Int) (val em : Str) (tk te tv tl tc : Tok) (ct sp : Addr) (k1 k2 : Nat) (rest : Led)
    (B : Below A₀ base outer h₀) (F : Fr h₀ L s.heap m) (X : (hd.heap_39 w.params).In h₀)
    (N : News h₀ L s.heap ((ct, ⟨.type "tuple", none, .seq #[.str em te, .ref sp] k1, #[]⟩) :: (sp, ⟨.type "tuple", none, .seq #[.int li tl, .int co tc] k2, #[]⟩) :: rest)) (T : Top p loose mean mg mb h₀)
    (hk0 : 0 ≤ kind) (hk1 : kind < 256)
    (hd' : dp + 4 < recursionLimit) (hu : un + 32 < cLine)
    (hret : ∀ x d nd D on t1 t2 t3 t4 t5 t6 t7 n h' tk', Fr h₀ L h' m → News h₀ L h' ((D, W.listOf #[] 0) :: (nd, on) :: (x, instObj 329 d) :: (d, dictOf (leafEs w.params t1 t2 t3 t4 t5 t6 t7 nd D em te li tl co tc kind tk val tv) n) :: (ct, ⟨.type "tuple", none, .seq #[.str em te, .ref sp] k1, #[]⟩) :: (sp, ⟨.type "tuple", none, .seq #[.int li tl, .int co tc] k2, #[]⟩) :: rest) →
      NoteOk w nd on → AllLt d rest → @LT.lt Nat _ ct d → @LT.lt Nat _ sp d → @LT.lt Nat _ d x → @LT.lt Nat _ x nd → @LT.lt Nat _ nd D → Q (.ref x) { s with heap := h', toks := tk' }) :
    wpAny (model pr w) (ktrTop dp un gd cn ⟨.function, nm, ig, ic, mr⟩ L a ccd cl outer) (call (.ref 329) [.int kind tk, .str val tv, .ref ct]) Q E s := by
  k_with_none
  w_top off
  k_steps
  refine hret _ _ _ _ _ _ _ _ _ _ _ _ _ _ _ (by assumption) (by assumption) ⟨by assumption, by assumption, by assumption, by assumption, by assumption⟩ (by simp_all only) (by omega) (by omega) (by omega) (by omega) (by omega)
end Mine
end
section
open PySem PySem.W PyProof.Rows PySem.Spec PySem.Calls Builtin Builtin.ObjectAttr
namespace Mine
theorem entry_hasattr : entryFor table "hasattr" = some Builtin.«hasattr» := entryFor_of_tree (by kernel_rfl)
theorem kind_hasattr : builtinKind "hasattr" = none := by decide +kernel
theorem plain_hasattr : plainId "hasattr" = true := by decide +kernel
theorem args_hasattr (a b : Value) : argsOk "hasattr" ⟨[a, b], []⟩ := by unfold argsOk; kernel_rfl

theorem getAttrBy_miss {prog : Program} {w : World} {A : Around} {E : Value → Shared → Prop} {s : Shared} {K : Frag} {x C : Addr} {ox : Obj} {od : Option Obj} {cd : ClassData} {name : Str} {u : Tok} {Q : Option Value → Shared → Prop}
    (X : K.In s.heap) (I : InstAt s.heap x ox C od) (hcd : clsIn K C = some cd)
    (hga : findIn K (.ref C) "__getattribute__" = some (some (.builtin "object.__getattribute__"))) (hk : findIn K (.ref C) "__getattr__" = some none) (hf : findObj K C od name = some .missing)
    (hA : A.handled = none) (hcn : Array.foldl (fun k c => k + (Str.utf8Of c).length) 0 cd.name.cps ≤ 100) (hmsg : (Str.ofString (toString "'" ++ toString cd.name.toString ++ toString "' object has no attribute '") ++ name ++ Str.ofString "'").length ≤ sizeLine)
    (h : ∀ h' tk, (∀ b ob, s.heap.get? b = some ob → h'.get? b = some ob) → Q none { s with heap := h', toks := tk }) :
    wpAny (model prog w) A (getAttrBy? (.ref x) (.str name u)) Q E s := by
  obtain ⟨hh, g, d, t, os⟩ := s
  have L0 := I.type (M := model prog w)
  have L1 := looks_findIn (M := model prog w) X hga
  have L2 := looks_findIn (M := model prog w) X hk
  have L3 := looks_find (M := model prog w) X I hf
  have L5 := looks_clsIn (M := model prog w) X hcd
  unfold getAttrBy?
  refine wpAny_bind (wpAny_attempt ?_)
  unfold getAttrBy
  refine wpAny_holding (wpAny_bind (L0.at (wpAny_bind (L1.at ?_))))
  show wpAny _ _ (getAttrEveryday _ _ _) _ _ _
  refine wpAny_bind (wpAny_onRaise (wpAny_runValue (codeAny_builtin F.plainObj_entry_getattr_hooked ?_)))
  unfold Builtin.«proto.getattr_hooked»
  repeat lk
  rw [if_pos hcn]
  refine wpAny_pure ?_
  refine wpAny_raiseAttrError (show A.handled = none from hA) (fun h' tk e hx => ?_) hmsg
  dsimp only
  have L6 : Looks (model prog w) h' (isInstance (.ref e) (.type "AttributeError")) true := by
    obtain ⟨t', u', he⟩ := hx.there
    exact (show Looks (model prog w) h' (typeOf (.ref e)) (.type "AttributeError") from (Looks.ld he).andThen Looks.now).andThen (Looks.of_pure sub_AttributeError)
  repeat lk
  exact h _ _ hx.keeps

theorem hasattr_miss {prog : Program} {w : World} {A : Around} {E : Value → Shared → Prop} {s : Shared} {K : Frag} {x C : Addr} {ox : Obj} {od : Option Obj} {name : Str} {u : Tok} {Q : Value → Shared → Prop}
    (X : K.In s.heap) (I : InstAt s.heap x ox C od)
    (hga : findIn K (.ref C) "__getattribute__" = some (some (.builtin "object.__getattribute__"))) (hk : findIn K (.ref C) "__getattr__" = some none) (hf : findObj K C od name = some .missing)
    (hs : subIn K (.ref C) (.type "module") = some false)
    (hA : A.handled = none) {cd : ClassData} (hcd : clsIn K C = some cd) (hcn : Array.foldl (fun k c => k + (Str.utf8Of c).length) 0 cd.name.cps ≤ 100) (hmsg : (Str.ofString (toString "'" ++ toString cd.name.toString ++ toString "' object has no attribute '") ++ name ++ Str.ofString "'").length ≤ sizeLine)
    (h : ∀ h' tk, (∀ b ob, s.heap.get? b = some ob → h'.get? b = some ob) → Q (.bool false) { s with heap := h', toks := tk }) :
    wpAny (model prog w) A (call (.builtin "hasattr") [.ref x, .str name u]) Q E s := by
  refine call_function_entry kind_hasattr plain_hasattr entry_hasattr (args_hasattr _ _) ?_
  obtain ⟨hh, g, d, t, os⟩ := s
  have L0 := I.type (M := model prog w)
  have L1 := looks_findIn (M := model prog w) X hga
  have L2 := looks_findIn (M := model prog w) X hk
  have L3 := looks_find (M := model prog w) X I hf
  have L4 : Looks (model prog w) hh (isInstance (.ref x) (.type "module")) false := L0.andThen (looks_subIn X hs)
  unfold Builtin.«hasattr»
  repeat (first | ((with_reducible show wpAny _ _ (getAttrBy? _ _) _ _ _); refine getAttrBy_miss X I hcd hga hk hf hA hcn hmsg (fun h' tk' hk' => ?_); dsimp only) | lk)
  exact ⟨_, rfl, h _ _ hk'⟩

theorem findObj_missing {K : Frag} {C : Addr} {od : Obj} {name : Str} (hh : hasDictIn K C = true) (ha : findIn K (.ref C) name = some none) (hl : lookIn name od = some none) (hc : copiedNames.contains name = false) : findObj K C (some od) name = some .missing := by
  obtain ⟨cd, hc', hd⟩ := any_some hh
  unfold findObj
  have ho : W.ownOf cd (some od) name = some none := by unfold W.ownOf; rw [if_pos hd]; exact hl
  rw [hc', Option.bind_some, ha, Option.bind_some]
  simp only [Option.bind_some, ho, hc, Bool.false_and, Bool.false_eq_true, if_false]

theorem hasattr_K {prog : Program} {w : World} {A : Around} {E : Value → Shared → Prop} {s : Shared} {K : Frag} {x C L : Addr} {h₀ : Heap} {m : Str → Option Value} {news : List (Addr × Obj)} {es : List DictEntry} {n : Nat} {ox : Obj} {name : Str} {u : Tok} {cd : ClassData} {Q : Value → Shared → Prop}
    (F : Fr h₀ L s.heap m) (X₀ : K.In h₀) (N : News h₀ L s.heap news) (I : InstAt s.heap x ox C (some (dictOf es n)))
    (hg : plainGet K C name = true) (hh : hasDictIn K C = true) (ha : findIn K (.ref C) name = some none) (hl : getL name es = some none) (hc : copiedNames.contains name = false)
    (hs : subIn K (.ref C) (.type "module") = some false) (hcd : clsIn K C = some cd)
    (hA : A.handled = none) (hcn : Array.foldl (fun k c => k + (Str.utf8Of c).length) 0 cd.name.cps ≤ 100) (hmsg : (Str.ofString (toString "'" ++ toString cd.name.toString ++ toString "' object has no attribute '") ++ name ++ Str.ofString "'").length ≤ sizeLine)
    (h : ∀ h' tk, Fr h₀ L h' m → News h₀ L h' news → Q (.bool false) { s with heap := h', toks := tk }) :
    wpAny (model prog w) A (call (.builtin "hasattr") [.ref x, .str name u]) Q E s :=
  hasattr_miss (X₀.keeps F.keep) I (plainGet_of hg).1 (plainGet_of hg).2 (findObj_missing hh ha hl hc) hs hA hcd hcn hmsg (fun h' tk k => h h' tk (F.keeps k) (N.grown k))
end Mine
end
section
open PySem PySem.W PyProof.Rows PySem.Spec PySem.Calls
namespace Mine
structure Stop (P : Prop) : Prop where
  out : P
theorem stop_here {P : Prop} (h : Stop P) : P := h.out

/-- a token: what of it stands, the entries of its dict by what lies before and behind it -/
structure Tk (P : Params) where
  a : Addr
  d : Addr
  lf : Addr
  lfd : Addr
  val : Str
  vt : Tok
  kind : Int
  kt : Tok
  line : Int
  lt : Tok
  col : Int
  ct : Tok
  es : Value → Value → List DictEntry
  cnt : Nat
  les : List DictEntry
  lcnt : Nat
  gval : ∀ p n, getL (Str.ofString "value") (es p n) = some (some (.str val vt))
  gnode : ∀ p n, getL (Str.ofString "node") (es p n) = some (some (.ref lf))
  gprev : ∀ p n, getL (Str.ofString "previous_token") (es p n) = some (some p)
  gnext : ∀ p n, getL (Str.ofString "next_token") (es p n) = some (some n)
  gtype : ∀ p n, getL (Str.ofString "type") (es p n) = some (some (.int kind kt))
  gline : ∀ p n, getL (Str.ofString "lineno") (es p n) = some (some (.int line lt))
  gcol : ∀ p n, getL (Str.ofString "column") (es p n) = some (some (.int col ct))
  pprev : ∀ p n h k v, putL (Str.ofString "previous_token") h k v (es p n) = es v n
  pnext : ∀ p n h k v, putL (Str.ofString "next_token") h k v (es p n) = es p v
  cprev : ∀ p n c, putN (Str.ofString "previous_token") (es p n) c = c
  cnext : ∀ p n c, putN (Str.ofString "next_token") (es p n) c = c
  len : ∀ p n, (es p n).length ≤ 1000
  lval : getL (Str.ofString "value") les = some (some (.str val vt))
  ltype : getL (Str.ofString "type") les = some (some (.int kind kt))
  lline : getL (Str.ofString "lineno") les = some (some (.int line lt))
  lcol : getL (Str.ofString "column") les = some (some (.int col ct))
  o1 : @LT.lt Nat _ lfd lf
  o2 : @LT.lt Nat _ lf d
  o3 : @LT.lt Nat _ d a
  k0 : 0 ≤ kind
  k1 : kind < 60
  l0 : 0 ≤ line
  l1 : line < 100
  c0 : 0 ≤ col
  c1 : col < 100
  vlen : val.length ≤ 10

/-- the entries of a token in a ledger -/
def Tk.led {P : Params} (t : Tk P) (p n : Value) : Led := [(t.a, instObj 486 t.d), (t.d, dictOf (t.es p n) t.cnt), (t.lf, instObj 329 t.lfd), (t.lfd, dictOf t.les t.lcnt)]
end Mine
end
section
open PySem PySem.W PyProof.Rows PySem.Spec PySem.Calls
namespace Mine
theorem fill3 {w : World} {h₀ : Heap} (X : (hd.heap_39 w.params).In h₀) : (hd.heap_39 w.params).In h₀ ∧ PySem.Challenge.rw_bu5043_01 = PySem.Challenge.rw_bu5043_01 := by
  k_fill
  exact ⟨X, rfl⟩
local macro_rules | `(tactic| k_room) => `(tactic| ktr_room)

local macro_rules | `(tactic| walk_at "call builtin:hasattr") => `(tactic| (k_here; (with_reducible show wpAny _ _ (call (Value.builtin _) [Value.ref _, Value.str _ _]) _ _ _); k_dflt (refine' hasattr_K ?k1 ?k2 ?k3 ?k4 ?k5 ?k6 ?k7 ?k8 ?k9 ?k10 ?k11 ?k12 ?k13 ?k14 ?_; (case k1 => k_asm); (case k2 => k_asm); (case k3 => k_asm); (case k4 => k_inst); (case k5 => k_is); (case k6 => k_is); (case k7 => k_is); (case k8 => k_get); (case k9 => decide +kernel); (case k10 => k_is); (case k11 => k_is); (case k12 => rfl); (case k13 => decide +kernel); (case k14 => decide +kernel)); intro h' tk' F' N'; (try k_sweep)))
local macro_rules | `(tactic| walk_at "call ref") => `(tactic| (k_here; k_dflt (first
  | (refine' call_cls ?k1 ?k2 ?k3 ?k4 ?k5 ?k6 ?_; (case k1 => k_asm); (case k2 => k_asm); (case k3 => k_asm); (case k4 => k_is); (case k5 => k_is); (case k6 => k_is); k_whole; intro x' d' h' F' N' l1 l2; (try k_lt l1); (try k_lt2 l2); (try k_sweep); k_enter)
  | (refine' call_meth ?k1 ?k2 ?_; (case k1 => k_asm); (case k2 => k_mem); k_whole; k_enter)
  | (refine wpAny_call ?_; k_enter))))
def tokEs (P : Params) (k0 k1 k2 k3 k4 k5 k6 k7 k8 k9 k10 k11 k12 k13 k14 k15 k16 k17 k18 k19 k20 : Tok) (v0 v1 v2 v3 v4 v5 v6 v7 v8 v9 v10 v11 v12 v13 : Value) (x : Addr) (kind : Int) (tk : Tok) (co : Int) (tc : Tok) (li : Int) (tl : Tok) (val : Str) (tv : Tok) (p n : Value) : List DictEntry :=
  [⟨PyData.keyHash P (Str.ofString "node"), .str (Str.ofString "node") k0, .ref x⟩,
   ⟨PyData.keyHash P (Str.ofString "name"), .str (Str.ofString "name") k1, v0⟩,
   ⟨PyData.keyHash P (Str.ofString "type"), .str (Str.ofString "type") k2, .int kind tk⟩,
   ⟨PyData.keyHash P (Str.ofString "column"), .str (Str.ofString "column") k3, .int co tc⟩,
   ⟨PyData.keyHash P (Str.ofString "lineno"), .str (Str.ofString "lineno") k4, .int li tl⟩,
   ⟨PyData.keyHash P (Str.ofString "value"), .str (Str.ofString "value") k5, .str val tv⟩,
   ⟨PyData.keyHash P (Str.ofString "next_token"), .str (Str.ofString "next_token") k6, n⟩,
   ⟨PyData.keyHash P (Str.ofString "previous_token"), .str (Str.ofString "previous_token") k7, p⟩,
   ⟨PyData.keyHash P (Str.ofString "matching_bracket"), .str (Str.ofString "matching_bracket") k8, v1⟩,
   ⟨PyData.keyHash P (Str.ofString "parameters"), .str (Str.ofString "parameters") k9, v2⟩,
   ⟨PyData.keyHash P (Str.ofString "container_opening"), .str (Str.ofString "container_opening") k10, v3⟩,
   ⟨PyData.keyHash P (Str.ofString "container_elements"), .str (Str.ofString "container_elements") k11, v4⟩,
   ⟨PyData.keyHash P (Str.ofString "whitespace_prefix"), .str (Str.ofString "whitespace_prefix") k12, v5⟩,
   ⟨PyData.keyHash P (Str.ofString "total_length"), .str (Str.ofString "total_length") k13, v6⟩,
   ⟨PyData.keyHash P (Str.ofString "split_penalty"), .str (Str.ofString "split_penalty") k14, v7⟩,
   ⟨PyData.keyHash P (Str.ofString "can_break_before"), .str (Str.ofString "can_break_before") k15, v8⟩,
   ⟨PyData.keyHash P (Str.ofString "must_break_before"), .str (Str.ofString "must_break_before") k16, v9⟩,
   ⟨PyData.keyHash P (Str.ofString "newlines"), .str (Str.ofString "newlines") k17, v10⟩,
   ⟨PyData.keyHash P (Str.ofString "spaces_required_before"), .str (Str.ofString "spaces_required_before") k18, v11⟩,
   ⟨PyData.keyHash P (Str.ofString "subtypes"), .str (Str.ofString "subtypes") k19, v12⟩,
   ⟨PyData.keyHash P (Str.ofString "is_pseudo"), .str (Str.ofString "is_pseudo") k20, v13⟩]
def mkTk (P : Params) (a d lf lfd : Addr) (k0 k1 k2 k3 k4 k5 k6 k7 k8 k9 k10 k11 k12 k13 k14 k15 k16 k17 k18 k19 k20 : Tok) (v0 v1 v2 v3 v4 v5 v6 v7 v8 v9 v10 v11 v12 v13 : Value) (kind : Int) (tk : Tok) (co : Int) (tc : Tok) (li : Int) (tl : Tok) (val : Str) (tv : Tok) (cnt : Nat) (t1 t2 t3 t4 t5 t6 t7 : Tok) (nd D : Addr) (em : Str) (te : Tok) (lcnt : Nat)
    (o1 : @LT.lt Nat _ lfd lf) (o2 : @LT.lt Nat _ lf d) (o3 : @LT.lt Nat _ d a) (k0' : 0 ≤ kind) (k1' : kind < 60) (l0 : 0 ≤ li) (l1 : li < 100) (c0 : 0 ≤ co) (c1 : co < 100) (vlen : val.length ≤ 10) : Tk P where
  a := a
  d := d
  lf := lf
  lfd := lfd
  val := val
  vt := tv
  kind := kind
  kt := tk
  line := li
  lt := tl
  col := co
  ct := tc
  es := tokEs P k0 k1 k2 k3 k4 k5 k6 k7 k8 k9 k10 k11 k12 k13 k14 k15 k16 k17 k18 k19 k20 v0 v1 v2 v3 v4 v5 v6 v7 v8 v9 v10 v11 v12 v13 lf kind tk co tc li tl val tv
  cnt := cnt
  les := leafEs P t1 t2 t3 t4 t5 t6 t7 nd D em te li tl co tc kind tk val tv
  lcnt := lcnt
  gval := fun _ _ => rfl
  gnode := fun _ _ => rfl
  gprev := fun _ _ => rfl
  gnext := fun _ _ => rfl
  gtype := fun _ _ => rfl
  gline := fun _ _ => rfl
  gcol := fun _ _ => rfl
  pprev := fun _ _ _ _ _ => rfl
  pnext := fun _ _ _ _ _ => rfl
  cprev := fun _ _ _ => rfl
  cnext := fun _ _ _ => rfl
  len := fun _ _ => by show (21 : Nat) ≤ 1000; decide
  lval := rfl
  ltype := rfl
  lline := rfl
  lcol := rfl
  o1 := o1
  o2 := o2
  o3 := o3
  k0 := k0'
  k1 := k1'
  l0 := l0
  l1 := l1
  c0 := c0
  c1 := c1
  vlen := vlen

theorem ftok_ret {w : World} {h₀ h' : Heap} {L : Addr} {m : Str → Option Value} {s : Shared} {Q : Value → Shared → Prop} {tk' : Nat} {sd l1 l2 a d nd x ld D : Addr} {so b1 b2 on : Obj} {k0 k1 k2 k3 k4 k5 k6 k7 k8 k9 k10 k11 k12 k13 k14 k15 k16 k17 k18 k19 k20 : Tok} {v0 v1 v2 v3 v4 v5 v6 v7 v8 v9 v10 v11 v12 v13 : Value} {kind co li : Int} {val em : Str} {tk tc tl tv te t1 t2 t3 t4 t5 t6 t7 : Tok} {cnt lcnt : Nat} {rest : Led}
    (F : Fr h₀ L h' m)
    (N : News h₀ L h' ((sd, so) :: (l1, b1) :: (l2, b2) :: (a, instObj 486 d) :: (d, dictOf (tokEs w.params k0 k1 k2 k3 k4 k5 k6 k7 k8 k9 k10 k11 k12 k13 k14 k15 k16 k17 k18 k19 k20 v0 v1 v2 v3 v4 v5 v6 v7 v8 v9 v10 v11 v12 v13 x kind tk co tc li tl val tv .none .none) cnt) :: (nd, on) :: (x, instObj 329 ld) :: (ld, dictOf (leafEs w.params t1 t2 t3 t4 t5 t6 t7 nd D em te li tl co tc kind tk val tv) lcnt) :: rest))
    (o1 : @LT.lt Nat _ ld x) (o2 : @LT.lt Nat _ x d) (o3 : @LT.lt Nat _ d a) (k0' : 0 ≤ kind) (k1' : kind < 60) (l0 : 0 ≤ li) (l1' : li < 100) (c0 : 0 ≤ co) (c1 : co < 100) (vlen : val.length ≤ 10)
    (hret : ∀ (t : Tk w.params) h' tk', t.lf = x → t.lfd = ld → t.val = val → t.kind = kind → t.line = li → t.col = co → Fr h₀ L h' m → News h₀ L h' (t.led .none .none ++ rest) → Q (.ref t.a) { s with heap := h', toks := tk' }) :
    Q (.ref a) { s with heap := h', toks := tk' } := by
  refine hret (mkTk w.params a d x ld k0 k1 k2 k3 k4 k5 k6 k7 k8 k9 k10 k11 k12 k13 k14 k15 k16 k17 k18 k19 k20 v0 v1 v2 v3 v4 v5 v6 v7 v8 v9 v10 v11 v12 v13 kind tk co tc li tl val tv cnt t1 t2 t3 t4 t5 t6 t7 nd D em te lcnt o1 o2 o3 k0' k1' l0 l1' c0 c1 vlen) h' tk' rfl rfl rfl rfl rfl rfl F (fun p hp => N p ?_)
  rcases List.mem_append.mp hp with hp | hp
  · rcases List.mem_cons.mp hp with rfl | hp
    · exact .tail _ (.tail _ (.tail _ (.head _)))
    · rcases List.mem_cons.mp hp with rfl | hp
      · exact .tail _ (.tail _ (.tail _ (.tail _ (.head _))))
      · rcases List.mem_cons.mp hp with rfl | hp
        · exact .tail _ (.tail _ (.tail _ (.tail _ (.tail _ (.tail _ (.head _))))))
        · rw [List.mem_singleton.mp hp]
          exact .tail _ (.tail _ (.tail _ (.tail _ (.tail _ (.tail _ (.tail _ (.head _)))))))
  · exact .tail _ (.tail _ (.tail _ (.tail _ (.tail _ (.tail _ (.tail _ (.tail _ hp)))))))

end Mine
end
section
open PySem PySem.W PyProof.Rows PySem.Spec PySem.Calls
namespace Mine
theorem fill3' {w : World} {h₀ : Heap} (X : (hd.heap_39 w.params).In h₀) : (hd.heap_39 w.params).In h₀ ∧ PySem.Challenge.rw_bu5043_01 = PySem.Challenge.rw_bu5043_01 := by
  k_fill
  exact ⟨X, rfl⟩
local macro_rules | `(tactic| k_room) => `(tactic| (simp only [depth_under_make, depth_under_kw, depth_in1, depth_deeper, depth_caller, ktrTop]; omega))
local macro_rules | `(tactic| walk_at "call builtin:hasattr") => `(tactic| (k_here; (with_reducible show wpAny _ _ (call (Value.builtin _) [Value.ref _, Value.str _ _]) _ _ _); k_dflt (refine' hasattr_K ?k1 ?k2 ?k3 ?k4 ?k5 ?k6 ?k7 ?k8 ?k9 ?k10 ?k11 ?k12 ?k13 ?k14 ?_; (case k1 => k_asm); (case k2 => k_asm); (case k3 => k_asm); (case k4 => k_inst); (case k5 => k_is); (case k6 => k_is); (case k7 => k_is); (case k8 => k_get); (case k9 => decide +kernel); (case k10 => k_is); (case k11 => k_is); (case k12 => rfl); (case k13 => decide +kernel); (case k14 => decide +kernel)); intro h' tk' F' N'; (try k_sweep)))
local macro_rules | `(tactic| walk_at "call ref") => `(tactic| (k_here; k_dflt (first
  | (refine' call_cls ?k1 ?k2 ?k3 ?k4 ?k5 ?k6 ?_; (case k1 => k_asm); (case k2 => k_asm); (case k3 => k_asm); (case k4 => k_is); (case k5 => k_is); (case k6 => k_is); k_whole; intro x' d' h' F' N' l1 l2; (try k_lt l1); (try k_lt2 l2); (try k_sweep); k_enter)
  | (refine' call_meth ?k1 ?k2 ?_; (case k1 => k_asm); (case k2 => k_mem); k_whole; k_enter)
  | (refine wpAny_call ?_; k_enter))))
theorem ftok_c {w : World} {p : Program} {loose : List Str} {mean : ExcName → Option Value} {mg mb : Str → Option Value}
    (dp un : Nat) (gd : Option (List Code)) (cn : Str) (nm : List (Str × NameKind)) (ig ic : Bool) (mr : List (Str × Const)) (a : Addr) (ccd : Value) (cl : List (Str × Addr)) (outer : List Env) (A₀ : Around) (base h₀ : Heap) (L : Addr) (m : Str → Option Value) (s : Shared)
    (Q E : Value → Shared → Prop) (kind li co : Int) (val em nam : Str) (tk te tv tl tc tn : Tok) (x d nd D : Addr) (on : Obj) (t1 t2 t3 t4 t5 t6 t7 : Tok) (n : Nat) (rest : Led)
    (B : Below A₀ base outer h₀) (F : Fr h₀ L s.heap m) (X : (hd.heap_39 w.params).In h₀)
    (N : News h₀ L s.heap ((nd, on) :: (x, instObj 329 d) :: (d, dictOf (leafEs w.params t1 t2 t3 t4 t5 t6 t7 nd D em te li tl co tc kind tk val tv) n) :: rest)) (T : Top p loose mean mg mb h₀)
    (hk0 : 0 ≤ kind) (hk1 : kind < 60) (l0 : 0 ≤ li) (l1 : li < 100) (c0 : 0 ≤ co) (c1 : co < 100) (vlen : val.length ≤ 10) (hno : NoteOk w nd on) (o1 : @LT.lt Nat _ d x)
    (hd' : dp + 6 < recursionLimit) (hu : un + 64 < cLine)
    (hret : ∀ (t : Tk w.params) h' tk', t.lf = x → t.lfd = d → t.val = val → t.kind = kind → t.line = li → t.col = co → Fr h₀ L h' m → News h₀ L h' (t.led .none .none ++ rest) → Q (.ref t.a) { s with heap := h', toks := tk' }) :
    wpAny (model pr w) (ktrTop dp un gd cn ⟨.function, nm, ig, ic, mr⟩ L a ccd cl outer) (call (.ref 486) [.ref x, .str nam tn]) Q E s := by
  k_with_none
  w_top off
  obtain ⟨n1, n2, n3, n4, n5⟩ := hno
  have h60 : decide (kind = 60) = false := decide_eq_false (by omega)
  have h60' : ¬ kind = 60 := by omega
  have h60'' : (kind == 60) = false := by simpa using h60'
  by_cases h53' : kind = 53
  · have h53 : decide (kind = 53) = true := decide_eq_true h53'
    have h53'' : (kind == 53) = true := by simpa using h53'
    k_steps
    all_goals exact ftok_ret (by assumption) (by assumption) (by assumption) (by omega) (by omega) (by assumption) (by assumption) (by assumption) (by assumption) (by assumption) (by assumption) (by assumption) hret
  · have h53 : decide (kind = 53) = false := decide_eq_false h53'
    have h53'' : (kind == 53) = false := by simpa using h53'
    k_steps
    all_goals exact ftok_ret (by assumption) (by assumption) (by assumption) (by omega) (by omega) (by assumption) (by assumption) (by assumption) (by assumption) (by assumption) (by assumption) (by assumption) hret
end Mine
end
section
open PySem PySem.W PyProof.Rows PySem.Spec PySem.Calls
namespace Mine
section
variable {prog : Program} {w : World} {A : Around} {E : Value → Shared → Prop} {s : Shared} {h₀ : Heap} {L : Addr} {m : Str → Option Value} {news : Led} {Q : Value → Shared → Prop}
theorem isl_mem {l : Addr} {vs : List Value} {k : Nat} (N : News h₀ L s.heap news) (h : (l, W.listOf vs.toArray k) ∈ news) : s.heap.IsList l vs.toArray := ⟨_, (N _ h).1, rfl, k, rfl⟩
theorem len_mem {l : Addr} {vs : List Value} {k n : Nat} (N : News h₀ L s.heap news) (h : (l, W.listOf vs.toArray k) ∈ news) (hn : vs.length = n) (hz : n ≤ 1000)
    (hq : Q (.int n (s.toks + 1)) { s with toks := s.toks + 1 + 1 }) : wpAny (model prog w) A (call (.builtin "len") [.ref l]) Q E s :=
  len_list (isl_mem N h) (by rw [List.size_toArray, hn]; omega) (by rw [List.size_toArray, hn]; exact hq)
theorem item_mem {value slice : PySem.Expr} {l : Addr} {vs : List Value} {kk : Nat} {k : Int} {u : Tok} {v : Value} (N : News h₀ L s.heap news) (h : (l, W.listOf vs.toArray kk) ∈ news)
    (h0 : 0 ≤ k) (hfit : k < 2 ^ 63) (hx : vs[k.toNat]? = some v) (hq : Q v s)
    (hs : subscripted slice false (.ref l) (.int k u) = operate [.ref l, .int k u] (getItem (.ref l) (.int k u))) (hg : ∀ r, letTemporaryGo value (.ref l) r = pure ()) :
    wpAny (model prog w) A (subscriptTail value slice (.ref l) (.int k u)) Q E s := item_list (isl_mem N h) h0 hfit (by simpa using hx) hq hs hg
theorem drop1_eq (vs : List Value) : kms_pick vs (some 1) none = vs.drop 1 := by
  show (vs.drop (min 1 vs.length)).take (vs.length - min 1 vs.length) = vs.drop 1
  by_cases h : 1 ≤ vs.length
  · rw [Nat.min_eq_left h]
    exact List.take_of_length_le (by rw [List.length_drop]; exact Nat.le_refl _)
  · have : vs = [] := List.eq_nil_of_length_eq_zero (by omega)
    subst this; rfl
theorem truthy_mem {l : Addr} {vs : List Value} {k n : Nat} {b : Bool} {Q : Bool → Shared → Prop} (N : News h₀ L s.heap news) (h : (l, W.listOf vs.toArray k) ∈ news) (hn : vs.length = n) (hz : n ≤ 1000) (hb : (!vs.isEmpty) = b)
    (hq : Q b { s with toks := s.toks + 1 + 1 }) : wpAny (model prog w) A (truthy (.ref l)) Q E s :=
  wpAny_truthy_list (isl_mem N h) (by rw [List.size_toArray, hn]; omega) (by rw [List.isEmpty_toArray, hb]; exact hq)
theorem slice1_mem {value slice : PySem.Expr} {l : Addr} {vs : List Value} {k n : Nat} {u : Tok} (F : Fr h₀ L s.heap m) (N : News h₀ L s.heap news) (hl : (l, W.listOf vs.toArray k) ∈ news) (hn : vs.length = n) (hz : n ≤ 1000)
    (h : ∀ D h', Fr h₀ L h' m → News h₀ L h' ((D, W.listOf (vs.drop 1).toArray 0) :: news) → (∀ p ∈ news, p.1 < D) → Q (.ref D) { s with heap := h' })
    (hs : subscripted slice false (.ref l) (.ref s.heap.objs.size) = operate [.ref s.heap.objs.size, .ref l] (getItem (.ref l) (.ref s.heap.objs.size))) (ht : ∀ r, letTemporaryGo value (.ref l) r = pure ()) :
    wpAny (model prog w) A (subscriptTail value slice (.ref l) (.ref s.heap.objs.size)) Q E { s with heap := s.heap.push { cls := .type "slice", data := .fields #[.int 1 u, .none, .none] } } :=
  kms_slice_lit (zs := vs.drop 1) F N (isl_mem N hl) (IsPart.int _ _) IsPart.none (drop1_eq vs) h hs ht (by rw [List.size_toArray, hn]; exact Nat.le_trans hz (by decide))
end

/-- what a loop keeps: some σ with its names' values, the rest of the frame as it was -/
def KeepS {σ : Type} (ps : σ → List (Str × Value)) (x : Str) (stored : List Str) (m₀ : Str → Option Value) (P : σ → Led → Prop) (m : Str → Option Value) (nx : Led) : Prop :=
  ∃ c, P c nx ∧ (∀ p ∈ ps c, m p.1 = some p.2) ∧ ∀ z, z ≠ x → (∀ p ∈ ps c, z ≠ p.1) → stored.contains z = false → m z = m₀ z
abbrev mapS {σ : Type} (ps : σ → List (Str × Value)) (x : Str) (stored : List Str) (m₀ u : Str → Option Value) (c : σ) (v : Option Value) : Str → Option Value :=
  fun y => if y = x then v else kstB (fun z => if stored.contains z then u z else m₀ z) (ps c) y
section
variable {prog : Program} {w : World} {A : Around} {E : Value → Shared → Prop} {s : Shared} {env : Env} {h₀ : Heap} {x : Str} {body : List Stmt} {Q : Flow → Shared → Prop}
theorem rg_loop {σ : Type} {r : Addr} {n : Nat} {t u v : Tok} {m₀ : Str → Option Value} {news : Led} (ps : σ → List (Str × Value)) (stored : List Str) (P : Nat → σ → Led → Prop) (c₀ : σ)
    (hh : A.handled = none) (hr : IsRange s.heap r 0 (n : Int) 1 t u v) (hn : n ≤ 1000) (F : Fr h₀ env.locals s.heap m₀) (N : News h₀ env.locals s.heap news) (hk : ∀ p ∈ ps c₀, m₀ p.1 = some p.2) (hp : P 0 c₀ news)
    (turn : ∀ i c tk₀ (u : Str → Option Value) nx h tk own, i < n → OwnOff own (nx.map (·.1)) → P i c nx → Fr h₀ env.locals h (mapS ps x stored m₀ u c (some (.int (i : Int) tk₀))) → News h₀ env.locals h (nx ++ own) →
      wpAny (model prog w) A (execs body env) (InvPostG h₀ env.locals (KeepS ps x stored m₀ (P (i + 1))) own { s with heap := h, toks := tk } Q) E { s with heap := h, toks := tk })
    (done : ∀ c (u : Str → Option Value) nx h tk, P n c nx → Fr h₀ env.locals h (fun y => if y = x then u y else kstB (fun z => if stored.contains z then u z else m₀ z) (ps c) y) → News h₀ env.locals h nx → Q .next { s with heap := h, toks := tk }) :
    wpAny (model prog w) A (pyIter (.ref r)) (fun it s₂ => LoopAtV prog w A h₀ env x body Q E it s₂) E s := by
  have hsz : Builtin.Range.rangeSize 0 (n : Int) 1 = (n : Int) := by
    unfold Builtin.Range.rangeSize
    by_cases h0 : (0 : Int) < n
    · simp only [gt_iff_lt, if_true, h0, Int.zero_lt_one]; omega
    · simp only [gt_iff_lt, if_true, h0, Int.zero_lt_one, if_false]; omega
  have hsm : Builtin.Range.small 0 (n : Int) 1 = true := by
    have f : ∀ z : Int, 0 ≤ z → z ≤ 1000 → Builtin.Range.rangeFitsLong z = true := fun z h1 h2 => by
      unfold Builtin.Range.rangeFitsLong
      simp
      omega
    unfold Builtin.Range.small
    rw [hsz, f 0 (by omega) (by omega), f n (by omega) (by omega), f 1 (by omega) (by omega), if_pos (by omega), f ((n : Int) + (1 - 1)) (by omega) (by omega)]
    simp
  refine wpAny_pyIter_range hr hsm ?_
  have W : Walks prog w A s.heap.objs.size [s.heap.objs.size] [s.heap.objs.size] n (fun i v => i < n ∧ ∃ t, v = .int (0 + i * 1) t)
      (fun i h => IsRangeIter h s.heap.objs.size (0 + (i : Nat) * 1) ((n : Int) - (i : Nat)) 1) := (Walks.range hh _ 0 1 n).bound
  refine kdr_loop (fun i m nx => KeepS ps x stored m₀ (P i) m nx) W (fun a h => h) (fun a h => h) ?_ ?_ ?_ ?_ ?_ (F.push _) (fun p hp => ⟨Heap.get?_push_of_some _ (N p hp).1, (N p hp).2⟩) ⟨c₀, hp, hk, fun _ _ _ _ => rfl⟩ ?_ ?_
  · intro i h st b hb
    rw [List.mem_singleton.mp hb]
    exact ⟨_, st⟩
  · intro hm
    exact absurd F.ns.lt ((List.mem_singleton.mp hm) ▸ Nat.lt_irrefl _)
  · intro b hb
    rw [List.mem_singleton.mp hb]
    exact next_is_new F
  · intro p hp hI
    exact absurd (Heap.lt_size (N p hp).1) ((List.mem_singleton.mp hI) ▸ Nat.lt_irrefl _)
  · show IsRangeIter _ _ _ _ _
    rw [hsz]; simpa using Heap.get?_push_size _ rfl
  · rintro i v m₁ nx h tk own hi ⟨_, t, rfl⟩ hoff ⟨c, hP, h1, h2⟩ F₁ N₁
    have e1 : (0 : Int) + (i : Int) * 1 = (i : Int) := by omega
    rw [e1] at F₁
    exact turn i c t m₁ nx h tk own hi hoff hP (kst_fr h1 h2 F₁) N₁
  · rintro m₁ nx h tk ⟨c, hP, h1, h2⟩ F₁ N₁
    exact done c m₁ nx h tk hP (kst_frOut h1 h2 F₁) N₁

theorem ls_loop {σ : Type} {l : Addr} {vs : List Value} {nn : Nat} {m₀ : Str → Option Value} {news : Led} (ps : σ → List (Str × Value)) (stored : List Str) (P : Nat → σ → Led → Prop) (c₀ : σ)
    (hh : A.handled = none) (hl : (l, W.listOf vs.toArray nn) ∈ news) (F : Fr h₀ env.locals s.heap m₀) (N : News h₀ env.locals s.heap news) (hk : ∀ p ∈ ps c₀, m₀ p.1 = some p.2) (hp : P 0 c₀ news)
    (turn : ∀ i c v (u : Str → Option Value) nx h tk own, vs[i]? = some v → OwnOff own (nx.map (·.1)) → (l, W.listOf vs.toArray nn) ∈ nx → P i c nx → Fr h₀ env.locals h (mapS ps x stored m₀ u c (some v)) → News h₀ env.locals h (nx ++ own) →
      wpAny (model prog w) A (execs body env) (InvPostG h₀ env.locals (fun m' nx => (l, W.listOf vs.toArray nn) ∈ nx ∧ KeepS ps x stored m₀ (P (i + 1)) m' nx) own { s with heap := h, toks := tk } Q) E { s with heap := h, toks := tk })
    (done : ∀ c (u : Str → Option Value) nx h tk, P vs.length c nx → Fr h₀ env.locals h (fun y => if y = x then u y else kstB (fun z => if stored.contains z then u z else m₀ z) (ps c) y) → News h₀ env.locals h nx → Q .next { s with heap := h, toks := tk }) :
    wpAny (model prog w) A (pyIter (.ref l)) (fun it s₂ => LoopAtV prog w A h₀ env x body Q E it s₂) E s := by
  refine kdl_iter (fun i m nx => KeepS ps x stored m₀ (P i) m nx) hh hl F N ⟨c₀, hp, hk, fun _ _ _ _ => rfl⟩ ?_ ?_
  · rintro i v m₁ nx h tk own hv hoff hl' ⟨c, hP, h1, h2⟩ F₁ N₁
    exact turn i c v m₁ nx h tk own hv hoff hl' hP (kst_fr h1 h2 F₁) N₁
  · rintro m₁ nx h tk ⟨c, hP, h1, h2⟩ F₁ N₁
    exact done c m₁ nx h tk hP (kst_frOut h1 h2 F₁) N₁
end

/-- a logical line: its object, its dict, its list -/
structure Ln (P : Params) where
  a : Addr
  d : Addr
  l : Addr
  dep : Int
  dt : Tok
  es : List DictEntry
  cnt : Nat
  gdep : getL (Str.ofString "depth") es = some (some (.int dep dt))
  gtok : getL (Str.ofString "_tokens") es = some (some (.ref l))
  gdis : getL (Str.ofString "disable") es = some (some (.bool false))
  gA : getL (Str.ofString "AppendToken") es = some none
  gS : getL (Str.ofString "Split") es = some none
  gC : getL (Str.ofString "AsCode") es = some none
def Ln.led {P : Params} (x : Ln P) : Led := [(x.a, instObj 132 x.d), (x.d, dictOf x.es x.cnt)]
def lnEs (P : Params) (t1 t2 t3 : Tok) (l : Addr) (dep : Int) (dt : Tok) : List DictEntry :=
  [⟨PyData.keyHash P (Str.ofString "depth"), .str (Str.ofString "depth") t1, .int dep dt⟩,
   ⟨PyData.keyHash P (Str.ofString "_tokens"), .str (Str.ofString "_tokens") t2, .ref l⟩,
   ⟨PyData.keyHash P (Str.ofString "disable"), .str (Str.ofString "disable") t3, .bool false⟩]
def mkLn (P : Params) (a d l : Addr) (dep : Int) (dt t1 t2 t3 : Tok) (cnt : Nat) : Ln P := ⟨a, d, l, dep, dt, lnEs P t1 t2 t3 l dep dt, cnt, rfl, rfl, rfl, rfl, rfl, rfl⟩
end Mine
end
section
open PySem PySem.W PyProof.Rows PySem.Spec PySem.Calls
namespace Mine
abbrev mapE {σ : Type} (ps : σ → List (Str × Value)) (stored : List Str) (m₀ u : Str → Option Value) (c : σ) : Str → Option Value :=
  kstB (fun z => if stored.contains z then u z else m₀ z) (ps c)
def KeepE {σ : Type} (ps : σ → List (Str × Value)) (stored : List Str) (m₀ : Str → Option Value) (P : σ → Led → Prop) (m : Str → Option Value) (nx : Led) : Prop :=
  ∃ c, P c nx ∧ (∀ p ∈ ps c, m p.1 = some p.2) ∧ ∀ z, (∀ p ∈ ps c, z ≠ p.1) → stored.contains z = false → m z = m₀ z
theorem mapE_eq {σ : Type} {ps : σ → List (Str × Value)} {stored : List Str} {m₀ m : Str → Option Value} {c : σ} (h1 : ∀ p ∈ ps c, m p.1 = some p.2) (h2 : ∀ z, (∀ p ∈ ps c, z ≠ p.1) → stored.contains z = false → m z = m₀ z) : mapE ps stored m₀ m c = m := by
  funext y
  refine kstB_eq h1 fun hn => ?_
  show (if stored.contains y = true then m y else m₀ y) = m y
  cases h3 : stored.contains y with
  | true => simp
  | false => simp only [Bool.false_eq_true, if_false]; exact (h2 y hn h3).symm
section
variable {prog : Program} {w : World} {A : Around} {E : Value → Shared → Prop} {s : Shared} {env : Env} {h₀ : Heap} {body : List Stmt} {Q : Flow → Shared → Prop}
theorem enum_loop {σ : Type} {elts : List PySem.Expr} {k : Nat} {pos : Pos} {l : Addr} {vs : List Value} {nn : Nat} {m₀ : Str → Option Value} {news : Led} (ps : σ → List (Str × Value)) (stored : List Str) (P : Nat → σ → Led → Prop) (c₀ : σ)
    (hh : A.handled = none) (F : Fr h₀ env.locals s.heap m₀) (N : News h₀ env.locals s.heap news) (hm : (l, W.listOf vs.toArray nn) ∈ news) (hk : ∀ p ∈ ps c₀, m₀ p.1 = some p.2) (hp : P 0 c₀ news)
    (turn : ∀ (i : Nat) v T t c (u : Str → Option Value) nx h tk its, vs[i]? = some v → IsTup h T #[.int (i : Int) t, v] → OwnOff its (nx.map (·.1)) → (l, W.listOf vs.toArray nn) ∈ nx → P i c nx → Fr h₀ env.locals h (mapE ps stored m₀ u c) → News h₀ env.locals h (nx ++ its) →
      wpAny (model prog w) A (assign (.Tuple elts k pos) env (.ref T)) (fun _ s₂ => wpAny (model prog w) A (execs body env) (InvPostG h₀ env.locals (fun m' nx => (l, W.listOf vs.toArray nn) ∈ nx ∧ KeepE ps stored m₀ (P (i + 1)) m' nx) its { s with heap := h, toks := tk } Q) E s₂) E { s with heap := h, toks := tk })
    (done : ∀ c (u : Str → Option Value) nx h tk, P vs.length c nx → Fr h₀ env.locals h (mapE ps stored m₀ u c) → News h₀ env.locals h nx → Q .next { s with heap := h, toks := tk }) :
    wpAny (model prog w) A (call (.type "enumerate") [.ref l]) (fun xv s₁ => wpAny (model prog w) A (pyIter xv) (fun it s₂ => TurnsAt prog w A h₀ env (.Tuple elts k pos) body Q E it s₂) E s₁) E s := by
  refine ktu_enum hh F N hm rfl rfl rfl fun I hI => ?_
  have key : ∀ (r : List Value) (i : Nat) (m : Str → Option Value) (nx : Led), vs.drop i = r → i ≤ vs.length → KeepE ps stored m₀ (P i) m nx → (∀ p ∈ nx, p.1 ≠ I ∧ p.1 ≠ I + 1) → (l, W.listOf vs.toArray nn) ∈ nx →
      ItemsRest prog w A E h₀ env (.Tuple elts k pos) body Q s [(I + 1, "enumerate"), (I, "list_iterator")] [(l, W.listOf vs.toArray nn)] (enumItems i r) m nx := by
    intro r
    induction r with
    | nil =>
      rintro i m nx hr hle ⟨c, hP, h1, h2⟩ hne hl
      refine ItemsRest.zero fun h tk F' N' => ?_
      have hi : vs.length ≤ i := List.drop_eq_nil_iff.mp hr
      have hv : i = vs.length := Nat.le_antisymm hle hi
      subst hv
      exact done c m nx h tk hP (by rw [mapE_eq h1 h2]; exact F') N'
    | cons v r ih =>
      rintro i m nx hr hle ⟨c, hP, h1, h2⟩ hne hl
      have hv : vs[i]? = some v := by
        have := congrArg List.head? hr
        rw [List.head?_drop] at this
        exact this
      have hr' : vs.drop (i + 1) = r := by
        rw [← List.tail_drop, hr]
        rfl
      refine ItemsRest.pair fun T t h tk hT F' => AllObj.cons fun o1 e1 => AllObj.cons fun o2 e2 => AllObj.nil fun N' => ?_
      have hoff : OwnOff [(I + 1, o1), (I, o2)] (nx.map (·.1)) := by
        intro p hp b hb e
        obtain ⟨q, hq, rfl⟩ := List.mem_map.mp hb
        rcases List.mem_cons.mp hp with rfl | hp
        · exact (hne q hq).2 e.symm
        · rw [List.mem_singleton.mp hp] at e
          exact (hne q hq).1 e.symm
      have N₂ : News h₀ env.locals h (nx ++ [(I + 1, o1), (I, o2)]) := fun p hp => N' p ((List.mem_append.mp hp).elim (fun h => List.mem_append.mpr (.inr h)) fun h => List.mem_append.mpr (.inl h))
      refine wpAny_mono (turn i v T t c m nx h tk _ hv hT hoff hl hP (by rw [mapE_eq h1 h2]; exact F') N₂) (fun _ s₂ h₂ => wpAny_mono h₂ (fun f s₃ h₃ => ?_) fun _ _ e => e) fun _ _ e => e
      have fin : InvEndG h₀ env.locals (fun m' nx => (l, W.listOf vs.toArray nn) ∈ nx ∧ KeepE ps stored m₀ (P (i + 1)) m' nx) [(I + 1, o1), (I, o2)] { s with heap := h, toks := tk } s₃ →
          UnrEndW h₀ env.locals { s with heap := h, toks := tk } [(I + 1, o1), (I, o2)] (fun m' n' => SubL [(l, W.listOf vs.toArray nn)] n' ∧ ItemsRest prog w A E h₀ env (.Tuple elts k pos) body Q s [(I + 1, "enumerate"), (I, "list_iterator")] [(l, W.listOf vs.toArray nn)] (enumItems (i + 1) r) m' n') s₃ := by
        rintro ⟨h', tk', m', news', nx', rfl, F₃, N₃, hn, ho, ha, hl₃, hK⟩
        refine ⟨h', tk', m', nx', rfl, F₃, fun p hp => N₃ p ((List.mem_append.mp hp).elim (ho p) (hn p)), fun p hp q hq e => ?_, ⟨hl₃, trivial⟩, ih (i + 1) m' nx' hr' (List.getElem?_eq_some_iff.mp hv).1 hK (fun p hp => ?_) hl₃⟩
        · exact ha q hq p.1 (List.mem_map.mpr ⟨p, hp, rfl⟩) e.symm
        · exact ⟨fun e => ha (I, o2) (by simp) p.1 (List.mem_map.mpr ⟨p, hp, rfl⟩) e.symm, fun e => ha (I + 1, o1) (by simp) p.1 (List.mem_map.mpr ⟨p, hp, rfl⟩) e.symm⟩
      cases f with
      | ret v => exact h₃
      | brk => exact h₃
      | next => exact fin h₃
      | cont => exact fin h₃
  exact key vs 0 m₀ news rfl (Nat.zero_le _) ⟨c₀, hp, hk, fun _ _ _ => rfl⟩ (fun p hp => ⟨Nat.ne_of_lt (hI p hp), Nat.ne_of_lt (Nat.lt_succ_of_lt (hI p hp))⟩) hm
end

def offs (l : Led) (as : List Addr) : Led := l.filter fun p => !as.contains p.1
theorem offs_off (l : Led) (as : List Addr) : OwnOff (offs l as) as := by
  intro p hp b hb e
  have := (List.mem_filter.mp hp).2
  rw [e] at this
  simp [hb] at this
theorem mem_offs {l : Led} {as : List Addr} {q : Addr × Obj} (h : q ∈ l) (n : q.1 ∉ as) : q ∈ offs l as := List.mem_filter.mpr ⟨h, by simpa using n⟩
theorem offs_sub {l : Led} {as : List Addr} {q : Addr × Obj} (h : q ∈ offs l as) : q ∈ l := (List.mem_filter.mp h).1

def TIn {P : Params} (ts : List (Tk P)) (pv nx : Nat → Value) (led : Led) : Prop := ∀ (i : Nat) (t : Tk P), ts[i]? = some t → ∀ q ∈ t.led (pv i) (nx i), q ∈ led
def Sep {P : Params} (ts : List (Tk P)) : Prop := ∀ (i j : Nat) (t u : Tk P), i < j → ts[i]? = some t → ts[j]? = some u → @LT.lt Nat _ t.a u.lfd
def updV (f : Nat → Value) (i : Nat) (v : Value) : Nat → Value := fun j => if j = i then v else f j
theorem Tk.led_addr {P : Params} {t : Tk P} {p n : Value} {q : Addr × Obj} (h : q ∈ t.led p n) : q.1 = t.a ∨ q.1 = t.d ∨ q.1 = t.lf ∨ q.1 = t.lfd := by
  simp only [Tk.led, List.mem_cons, List.not_mem_nil, or_false] at h
  rcases h with rfl | rfl | rfl | rfl <;> simp
theorem led_apart {P : Params} {ts : List (Tk P)} (S : Sep ts) {i j : Nat} {t u : Tk P} (hi : ts[i]? = some t) (hj : ts[j]? = some u) (hne : j ≠ i) {p n : Value} {q : Addr × Obj} (h : q ∈ u.led p n) : q.1 ≠ t.d := by
  have o1 := t.o1; have o2 := t.o2; have o3 := t.o3; have o4 := u.o1; have o5 := u.o2; have o6 := u.o3
  have a := Tk.led_addr h
  rcases Nat.lt_or_gt_of_ne hne with x | x
  · have y := S j i u t x hj hi
    intro e
    rw [e] at a
    rcases a with a | a | a | a <;> (have a : @Eq Nat _ _ := a; omega)
  · have y := S i j t u x hi hj
    intro e
    rw [e] at a
    rcases a with a | a | a | a <;> (have a : @Eq Nat _ _ := a; omega)
theorem TIn.upd {P : Params} {ts : List (Tk P)} {pv nx : Nat → Value} {led led' : Led} (S : Sep ts) (h : TIn ts pv nx led) {i : Nat} {t : Tk P} (hi : ts[i]? = some t) {p' n' : Value}
    (hh : (t.d, dictOf (t.es p' n') t.cnt) ∈ led') (hr : ∀ q ∈ led, q.1 ≠ t.d → q ∈ led') : TIn ts (updV pv i p') (updV nx i n') led' := by
  intro j u hj q hq
  by_cases e : j = i
  · subst e
    have e2 : u = t := Option.some.inj (hj.symm.trans hi)
    subst e2
    simp only [updV, if_true] at hq
    have hold : ∀ q ∈ u.led (pv j) (nx j), q ∈ led := h j u hj
    have o1 := u.o1; have o2 := u.o2; have o3 := u.o3
    simp only [Tk.led, List.mem_cons, List.not_mem_nil, or_false] at hq
    rcases hq with rfl | rfl | rfl | rfl
    · exact hr _ (hold _ (by simp [Tk.led])) (by show u.a ≠ u.d; intro e; have e : @Eq Nat _ _ := e; omega)
    · exact hh
    · exact hr _ (hold _ (by simp [Tk.led])) (by show u.lf ≠ u.d; intro e; have e : @Eq Nat _ _ := e; omega)
    · exact hr _ (hold _ (by simp [Tk.led])) (by show u.lfd ≠ u.d; intro e; have e : @Eq Nat _ _ := e; omega)
  · simp only [updV, if_neg e] at hq
    exact hr q (h j u hj q hq) (led_apart S hi hj e hq)

theorem fill_l3 {w : World} {h₀ : Heap} (X : (hd.heap_39 w.params).In h₀) : (hd.heap_39 w.params).In h₀ ∧ PySem.Challenge.rw_bu5043_01 = PySem.Challenge.rw_bu5043_01 := by
  k_fill
  exact ⟨X, rfl⟩
theorem Upd.mem {d : Addr} {o o' : Obj} {l l' : Led} (U : PySem.W.Upd d o o' l l') : (d, o) ∈ l := by
  obtain ⟨pre, post, rfl, _⟩ := U.split
  simp
section
variable {prog : Program} {w : World} {A : Around} {E : Value → Shared → Prop} {s : Shared} {h₀ : Heap} {L : Addr} {m : Str → Option Value} {news news' : Led} {Q : Unit → Shared → Prop}
theorem set_prev (F : Fr h₀ L s.heap m) (X₀ : (hd.heap_39 w.params).In h₀) (N : News h₀ L s.heap news) {t : Tk w.params} {p n v : Value} (hm : (t.a, instObj 486 t.d) ∈ news)
    (U : PySem.W.Upd t.d (dictOf (t.es p n) t.cnt) (dictOf (t.es v n) t.cnt) news news')
    (h : ∀ h', Fr h₀ L h' m → News h₀ L h' news' → Q () { s with heap := h', toks := s.toks + 2 }) :
    wpAny (model prog w) A (setAttr (.ref t.a) (Str.ofString "previous_token") v) Q E s :=
  set_dict (C := 486) F X₀ N (InstAt.of_news N hm (Upd.mem U)) rfl (by k_is) (by k_is) (by k_is) (by k_is) (by rw [t.gprev]; rfl) (by rw [t.pprev, t.cprev]) U (t.len _ _) h
theorem set_next (F : Fr h₀ L s.heap m) (X₀ : (hd.heap_39 w.params).In h₀) (N : News h₀ L s.heap news) {t : Tk w.params} {p n v : Value} (hm : (t.a, instObj 486 t.d) ∈ news)
    (U : PySem.W.Upd t.d (dictOf (t.es p n) t.cnt) (dictOf (t.es p v) t.cnt) news news')
    (h : ∀ h', Fr h₀ L h' m → News h₀ L h' news' → Q () { s with heap := h', toks := s.toks + 2 }) :
    wpAny (model prog w) A (setAttr (.ref t.a) (Str.ofString "next_token") v) Q E s :=
  set_dict (C := 486) F X₀ N (InstAt.of_news N hm (Upd.mem U)) rfl (by k_is) (by k_is) (by k_is) (by k_is) (by rw [t.gnext]; rfl) (by rw [t.pnext, t.cnext]) U (t.len _ _) h
end

def pv0 {P : Params} (ts : List (Tk P)) : Nat → Value
  | 0 => .none
  | i + 1 => match ts[i]? with | some t => .ref t.a | none => .none
def nx0 {P : Params} (ts : List (Tk P)) (i : Nat) : Value := match ts[i + 1]? with | some t => .ref t.a | none => .none
def pvJ {P : Params} (ts : List (Tk P)) (i : Nat) : Nat → Value := fun j => if j ≤ i then pv0 ts j else .none
def nxJ {P : Params} (ts : List (Tk P)) (i : Nat) : Nat → Value := fun j => if j < i then nx0 ts j else .none
theorem pvJ_zero {P : Params} (ts : List (Tk P)) : pvJ ts 0 = fun _ => .none := by
  funext j
  unfold pvJ
  split
  · have : j = 0 := by omega
    subst this; rfl
  · rfl
theorem nxJ_zero {P : Params} (ts : List (Tk P)) : nxJ ts 0 = fun _ => .none := by
  funext j
  simp [nxJ]
theorem pvJ_succ {P : Params} {ts : List (Tk P)} {i : Nat} {t : Tk P} (h : ts[i]? = some t) : pvJ ts (i + 1) = updV (updV (pvJ ts i) (i + 1) (.ref t.a)) i (pv0 ts i) := by
  funext j
  simp only [pvJ, updV]
  by_cases h1 : j = i
  · subst h1; simp
  · simp only [if_neg h1]
    by_cases h2 : j = i + 1
    · subst h2; simp [pv0, h]
    · simp only [if_neg h2]
      by_cases h3 : j ≤ i
      · rw [if_pos h3, if_pos (by omega)]
      · rw [if_neg h3, if_neg (by omega)]
theorem nxJ_succ {P : Params} {ts : List (Tk P)} {i : Nat} {t : Tk P} (h : ts[i + 1]? = some t) : nxJ ts (i + 1) = updV (updV (nxJ ts i) (i + 1) .none) i (.ref t.a) := by
  funext j
  simp only [nxJ, updV]
  by_cases h1 : j = i
  · subst h1; simp [nx0, h]
  · simp only [if_neg h1]
    by_cases h2 : j = i + 1
    · subst h2; simp
    · simp only [if_neg h2]
      by_cases h3 : j < i
      · rw [if_pos h3, if_pos (by omega)]
      · rw [if_neg h3, if_neg (by omega)]
theorem TIn.congr {P : Params} {ts : List (Tk P)} {pv nx pv' nx' : Nat → Value} {led : Led} (h : TIn ts pv nx led) (h1 : ∀ i, i < ts.length → pv i = pv' i) (h2 : ∀ i, i < ts.length → nx i = nx' i) : TIn ts pv' nx' led := by
  intro i t hi q hq
  have hl := (List.getElem?_eq_some_iff.mp hi).1
  rw [← h1 i hl, ← h2 i hl] at hq
  exact h i t hi q hq
/-- off the tokens' dicts -/
def OffT {P : Params} (ts : List (Tk P)) (R : Led) : Prop := ∀ q ∈ R, ∀ t ∈ ts, q.1 ≠ t.d
theorem ln_fold {P : Params} {h₀ h : Heap} {L D xa da l : Addr} {o : Obj} {dep : Int} {dt t1 t2 t3 : Tok} {c : Nat} {news R : Led} {ts : List (Tk P)} (N : News h₀ L h ((D, o) :: (xa, instObj 132 da) :: (da, dictOf (lnEs P t1 t2 t3 l dep dt) c) :: news))
    (hR : ∀ q ∈ R, q ∈ news) (hT : OffT ts R) (hlt : ∀ q ∈ news, @LT.lt Nat _ q.1 da) (hda : @LT.lt Nat _ da xa) (hD : @LT.lt Nat _ xa D) (htd : ∀ t ∈ ts, ∃ q ∈ news, q.1 = t.d) :
    ∃ es R1, getL (Str.ofString "depth") es = some (some (.int dep dt)) ∧ getL (Str.ofString "_tokens") es = some (some (.ref l)) ∧ getL (Str.ofString "disable") es = some (some (.bool false)) ∧
      getL (Str.ofString "AppendToken") es = some none ∧ getL (Str.ofString "Split") es = some none ∧ getL (Str.ofString "AsCode") es = some none ∧ News h₀ L h ((D, o) :: (xa, instObj 132 da) :: (da, dictOf es c) :: news) ∧ (∀ q ∈ R1, q ∈ ((D, o) :: (xa, instObj 132 da) :: (da, dictOf es c) :: news)) ∧ (xa, instObj 132 da) ∈ R1 ∧ (da, dictOf es c) ∈ R1 ∧ (D, o) ∈ R1 ∧ (∀ q ∈ R, q ∈ R1) ∧ OffT ts R1 := by
  refine ⟨lnEs P t1 t2 t3 l dep dt, (D, o) :: (xa, instObj 132 da) :: (da, dictOf (lnEs P t1 t2 t3 l dep dt) c) :: R, rfl, rfl, rfl, rfl, rfl, rfl, N, ?_, by simp, by simp, by simp, fun q hq => by simp [hq], ?_⟩
  · intro q hq
    rcases List.mem_cons.mp hq with rfl | hq
    · simp
    rcases List.mem_cons.mp hq with rfl | hq
    · simp
    · rcases List.mem_cons.mp hq with rfl | hq
      · simp
      · simp [hR q hq]
  · intro q hq t ht
    obtain ⟨q', hq', e⟩ := htd t ht
    have := hlt q' hq'
    rw [e] at this
    rcases List.mem_cons.mp hq with rfl | hq
    · intro e2; have e2 : @Eq Nat _ _ := e2; dsimp only at e2; omega
    rcases List.mem_cons.mp hq with rfl | hq
    · intro e2; have e2 : @Eq Nat _ _ := e2; dsimp only at e2; omega
    · rcases List.mem_cons.mp hq with rfl | hq
      · intro e2; have e2 : @Eq Nat _ _ := e2; dsimp only at e2; omega
      · exact hT q hq t ht

theorem focus2 {h₀ h : Heap} {L : Addr} {nx its : Led} {d1 d0 : Addr} {o1 o0 : Obj} (N : News h₀ L h (nx ++ its)) (e1 : (d1, o1) ∈ nx) (e0 : (d0, o0) ∈ nx) : News h₀ L h ((d1, o1) :: (d0, o0) :: (offs nx [d1, d0] ++ its)) := by
  intro p hp
  rcases List.mem_cons.mp hp with rfl | hp
  · exact N _ (List.mem_append_left _ e1)
  rcases List.mem_cons.mp hp with rfl | hp
  · exact N _ (List.mem_append_left _ e0)
  rcases List.mem_append.mp hp with hp | hp
  · exact N _ (List.mem_append_left _ (offs_sub hp))
  · exact N _ (List.mem_append_right _ hp)
theorem off2 {rest its nx : Led} {d1 d0 : Addr} {o1 o0 : Obj} (h : OwnOff rest [d1, d0]) (hi : OwnOff its (nx.map (·.1))) (e1 : (d1, o1) ∈ nx) (e0 : (d0, o0) ∈ nx) : OwnOff (rest ++ its) [d1, d0] := by
  intro p hp b hb
  rcases List.mem_append.mp hp with hp | hp
  · exact h p hp b hb
  · rcases List.mem_cons.mp hb with rfl | hb
    · exact hi p hp _ (List.mem_map.mpr ⟨_, e1, rfl⟩)
    · rw [List.mem_singleton.mp hb]
      exact hi p hp _ (List.mem_map.mpr ⟨_, e0, rfl⟩)

theorem news_uniq {h₀ h : Heap} {L a : Addr} {o : Obj} {l : Led} (N : News h₀ L h l) (h1 : (a, o) ∈ l) {q : Addr × Obj} (hq : q ∈ l) (e : q.1 = a) : q = (a, o) := by
  have x := (N _ h1).1
  have y := (N q hq).1
  rw [e] at y
  have z := Option.some.inj (y.symm.trans x)
  exact Prod.ext e z

theorem ln_end0 {P : Params} {h₀ h' : Heap} {L xa da l : Addr} {m : Str → Option Value} {s : Shared} {Q : Value → Shared → Prop} {tk' : Nat} {dep : Int} {dt t1 t2 t3 : Tok} {c k : Nat} {news : Led} (F : Fr h₀ L h' m)
    (N : News h₀ L h' ((l, W.listOf #[] k) :: (xa, instObj 132 da) :: (da, dictOf (lnEs P t1 t2 t3 l dep dt) c) :: news))
    (hret : ∀ (x : Ln P) (led' : Led) (k' : Nat) h' tk', x.dep = dep → Fr h₀ L h' m → News h₀ L h' led' → (∀ q ∈ news, q ∈ led') → (∀ q ∈ x.led, q ∈ led') → (x.l, W.listOf #[] k') ∈ led' → Q (.ref x.a) { s with heap := h', toks := tk' }) :
    Q (.ref xa) { s with heap := h', toks := tk' } :=
  hret (mkLn P xa da l dep dt t1 t2 t3 c) _ k h' tk' rfl F N (fun q hq => .tail _ (.tail _ (.tail _ hq))) (fun q hq => .tail _ (by
    rcases List.mem_cons.mp hq with rfl | hq
    · exact .head _
    · rw [List.mem_singleton.mp hq]; exact .tail _ (.head _))) (.head _)

theorem ln_mk {P : Params} {xa da l : Addr} {dep : Int} {dt : Tok} {es : List DictEntry} {c : Nat} {led' : Led} (g1 : getL (Str.ofString "depth") es = some (some (.int dep dt))) (g2 : getL (Str.ofString "_tokens") es = some (some (.ref l)))
    (g3 : getL (Str.ofString "disable") es = some (some (.bool false))) (g4 : getL (Str.ofString "AppendToken") es = some none) (g5 : getL (Str.ofString "Split") es = some none) (g6 : getL (Str.ofString "AsCode") es = some none) (m1 : (xa, instObj 132 da) ∈ led') (m2 : (da, dictOf es c) ∈ led') : ∃ x : Ln P, x.a = xa ∧ x.l = l ∧ x.dep = dep ∧ x.d = da ∧ ∀ q ∈ x.led, q ∈ led' :=
  ⟨⟨xa, da, l, dep, dt, es, c, g1, g2, g3, g4, g5, g6⟩, rfl, rfl, rfl, rfl, fun q hq => by
    rcases List.mem_cons.mp hq with rfl | hq
    · exact m1
    · rw [List.mem_singleton.mp hq]; exact m2⟩
end Mine
end
section
open PySem PySem.W PyProof.Rows PySem.Spec PySem.Calls
namespace Mine
/-- the parts of a row: the places between the semicolons -/
def partsU (q : Nat → Bool) : Nat → List (List Nat)
  | 0 => [[]]
  | n + 1 => if q n then partsU q n ++ [[]] else (partsU q n).dropLast ++ [((partsU q n).getLast?.getD []) ++ [n]]
def semiAt {P : Params} (ts : List (Tk P)) (i : Nat) : Bool := match ts[i]? with | some t => t.val == Str.ofString ";" | none => false
def IntL (vs : List Value) (ns : List Nat) : Prop := vs.length = ns.length ∧ ∀ (j n : Nat), ns[j]? = some n → ∃ t, vs[j]? = some (.int (n : Int) t)
/-- lists of ints on the ledger -/
structure PartsIn (led : Led) (pl : Addr) (as : List Addr) (pp : List (List Nat)) : Prop where
  mem : ∃ k, (pl, W.listOf (as.map Value.ref).toArray k) ∈ led
  len : as.length = pp.length
  each : ∀ (j : Nat) (a : Addr) (ns : List Nat), as[j]? = some a → pp[j]? = some ns → ∃ vs k, (a, W.listOf vs.toArray k) ∈ led ∧ IntL vs ns
  nodup : (pl :: as).Nodup


theorem nodup_inj {α : Type} {l : List α} (h : l.Nodup) {i j : Nat} (hi : i < l.length) (hj : j < l.length) (e : l[i] = l[j]) : i = j := by
  have := List.pairwise_iff_getElem.mp h
  rcases Nat.lt_trichotomy i j with h1 | h1 | h1
  · exact absurd e (this i j hi hj h1)
  · exact h1
  · exact absurd e.symm (this j i hj hi h1)
theorem last_mem {prog : Program} {w : World} {A : Around} {E : Value → Shared → Prop} {s : Shared} {h₀ : Heap} {L : Addr} {news : Led} {Q : Value → Shared → Prop} {value slice : PySem.Expr} {l : Addr} {vs : List Value} {kk : Nat} {u : Tok} {v : Value} (N : News h₀ L s.heap news) (h : (l, W.listOf vs.toArray kk) ∈ news)
    (hx : vs.getLast? = some v) (hq : Q v s)
    (hs : subscripted slice false (.ref l) (.int (-1) u) = operate [.ref l, .int (-1) u] (getItem (.ref l) (.int (-1) u))) (hg : ∀ r, letTemporaryGo value (.ref l) r = pure ()) :
    wpAny (model prog w) A (subscriptTail value slice (.ref l) (.int (-1) u)) Q E s := by
  have hne : 0 < vs.length := by
    cases vs with
    | nil => simp at hx
    | cons a b => simp
  refine kim_back N h rfl rfl (by decide) (by omega) (by decide) ?_ hq hs hg
  rw [List.getLast?_eq_getElem?] at hx
  have : (-1 + (vs.length : Int)).toNat = vs.length - 1 := by omega
  rw [this]; exact hx
theorem PartsIn.semi {nx led' : Led} {pl : Addr} {as : List Addr} {pp : List (List Nat)} (H : PartsIn nx pl as pp) {D : Addr} {k k' : Nat} (hD : D ∉ pl :: as)
    (h1 : (pl, W.listOf ((as.map Value.ref) ++ [Value.ref D]).toArray k) ∈ led') (h2 : (D, W.listOf #[] k') ∈ led') (h3 : ∀ q ∈ nx, q.1 ≠ pl → q ∈ led') : PartsIn led' pl (as ++ [D]) (pp ++ [[]]) := by
  have hnd := H.nodup
  refine ⟨⟨k, by rw [List.map_append]; exact h1⟩, by simp [H.len], ?_, ?_⟩
  · intro j a ns ha hp
    by_cases hj : j < as.length
    · rw [List.getElem?_append_left hj] at ha
      rw [List.getElem?_append_left (H.len ▸ hj)] at hp
      obtain ⟨vs, k, hm, hi⟩ := H.each j a ns ha hp
      refine ⟨vs, k, h3 _ hm fun e => ?_, hi⟩
      have : a ∈ as := List.mem_of_getElem? ha
      have e : a = pl := e
      subst e
      exact (List.nodup_cons.mp hnd).1 this
    · have hj2 : j = as.length := by
        have := (List.getElem?_eq_some_iff.mp ha).1
        simp at this; omega
      subst hj2
      rw [List.getElem?_append_right (Nat.le_refl _)] at ha
      rw [List.getElem?_append_right (Nat.le_of_eq H.len.symm), H.len] at hp
      simp at ha hp
      subst ha; subst hp
      exact ⟨[], k', h2, rfl, fun j n h => by simp at h⟩
  · rw [← List.cons_append, List.nodup_append]
    refine ⟨hnd, by simp, fun x hx y hy e => ?_⟩
    rw [List.mem_singleton.mp hy] at e
    exact hD (e ▸ hx)
theorem PartsIn.app {nx led' : Led} {pl : Addr} {as : List Addr} {pp : List (List Nat)} (H : PartsIn nx pl as pp) {al : Addr} {vs : List Value} {lst : List Nat} {n k : Nat} {t : Tok} (ha : as.getLast? = some al) (hp : pp.getLast? = some lst) (hi : IntL vs lst)
    (h1 : (al, W.listOf (vs ++ [Value.int (n : Int) t]).toArray k) ∈ led') (h3 : ∀ q ∈ nx, q.1 ≠ al → q ∈ led') : PartsIn led' pl as (pp.dropLast ++ [(pp.getLast?.getD []) ++ [n]]) := by
  have hnd := H.nodup
  have hal : al ∈ as := List.mem_of_getLast? ha
  have hne : al ≠ pl := fun e => (List.nodup_cons.mp hnd).1 (e ▸ hal)
  have hpl : 0 < pp.length := by cases pp with | nil => simp at hp | cons _ _ => simp
  obtain ⟨k0, hm0⟩ := H.mem
  refine ⟨⟨k0, h3 _ hm0 (fun e => hne e.symm)⟩, by simp [H.len]; omega, ?_, hnd⟩
  intro j a ns hja hjp
  rw [List.getLast?_eq_getElem?] at ha
  by_cases hj : j < pp.dropLast.length
  · rw [List.getElem?_append_left hj, List.getElem?_dropLast] at hjp
    have hj' : j < pp.length - 1 := by simpa using hj
    rw [if_pos hj'] at hjp
    obtain ⟨vs, k, hm, hi⟩ := H.each j a ns hja hjp
    refine ⟨vs, k, h3 _ hm fun e => ?_, hi⟩
    have e : a = al := e
    subst e
    have hnd2 := (List.nodup_cons.mp hnd).2
    have := H.len
    have hlt : j < as.length := by omega
    rw [List.getElem?_eq_getElem hlt] at hja
    rw [List.getElem?_eq_getElem (by omega)] at ha
    have := nodup_inj hnd2 hlt (by omega : as.length - 1 < as.length) ((Option.some.inj hja).trans (Option.some.inj ha).symm)
    omega
  · have hj2 : j = pp.length - 1 := by
      have := (List.getElem?_eq_some_iff.mp hjp).1
      simp at this hj; omega
    subst hj2
    rw [List.getElem?_append_right (by simp)] at hjp
    simp at hjp
    have e : a = al := by
      have h := ha
      rw [H.len] at h
      exact Option.some.inj (hja.symm.trans h)
    subst e
    rw [hp] at hjp
    subst hjp
    refine ⟨_, k, h1, by simp [hi.1], fun i m hm => ?_⟩
    by_cases hi2 : i < lst.length
    · simp only [Option.getD_some] at hm
      rw [List.getElem?_append_left hi2] at hm
      obtain ⟨t, ht⟩ := hi.2 i m hm
      exact ⟨t, by rw [List.getElem?_append_left (hi.1 ▸ hi2)]; exact ht⟩
    · simp only [Option.getD_some] at hm
      have hi3 : i = lst.length := by
        have := (List.getElem?_eq_some_iff.mp hm).1
        simp at this; omega
      subst hi3
      simp at hm
      subst hm
      exact ⟨t, by rw [← hi.1]; simp⟩
theorem focus1 {h₀ h : Heap} {L : Addr} {nx its : Led} {d1 : Addr} {o1 : Obj} (N : News h₀ L h (nx ++ its)) (e1 : (d1, o1) ∈ nx) : News h₀ L h ((d1, o1) :: (offs nx [d1] ++ its)) := by
  intro p hp
  rcases List.mem_cons.mp hp with rfl | hp
  · exact N _ (List.mem_append_left _ e1)
  rcases List.mem_append.mp hp with hp | hp
  · exact N _ (List.mem_append_left _ (offs_sub hp))
  · exact N _ (List.mem_append_right _ hp)
theorem off1 {rest its nx : Led} {d1 : Addr} {o1 : Obj} (h : OwnOff rest [d1]) (hi : OwnOff its (nx.map (·.1))) (e1 : (d1, o1) ∈ nx) : OwnOff (rest ++ its) [d1] := by
  intro p hp b hb
  rcases List.mem_append.mp hp with hp | hp
  · exact h p hp b hb
  · rw [List.mem_singleton.mp hb]
    exact hi p hp _ (List.mem_map.mpr ⟨_, e1, rfl⟩)
theorem partsU_ne (q : Nat → Bool) : ∀ n, 0 < (partsU q n).length
  | 0 => by simp [partsU]
  | n + 1 => by
    unfold partsU
    split <;> simp
theorem partsU_len (q : Nat → Bool) : ∀ n, (partsU q n).length ≤ n + 1
  | 0 => by simp [partsU]
  | n + 1 => by
    have := partsU_len q n
    have := partsU_ne q n
    unfold partsU
    split <;> simp <;> omega

end Mine
end
section
open PySem PySem.W PyProof.Rows PySem.Spec PySem.Calls
namespace Mine
theorem fill_l5 {w : World} {h₀ : Heap} (X : (hd.heap_39 w.params).In h₀) : (hd.heap_39 w.params).In h₀ ∧ PySem.Challenge.rw_bu5043_01 = PySem.Challenge.rw_bu5043_01 := by
  k_fill
  exact ⟨X, rfl⟩
section
variable {prog : Program} {w : World} {A : Around} {E : Value → Shared → Prop} {s : Shared} {h₀ : Heap} {L : Addr} {m : Str → Option Value} {news news' : Led} {Q : Unit → Shared → Prop}
theorem upd_at {d : Addr} {o o' : Obj} {rest : Led} (h : OwnOff rest [d]) : PySem.W.Upd d o o' ((d, o) :: rest) ((d, o') :: rest) :=
  .head fun p hp e => h p hp d (by simp) e
theorem same_news {h : Heap} {d : Addr} {o : Obj} {news : Led} {s : Heap} (N₀ : News h₀ L s news) (hd : (d, o) ∈ news) (N : News h₀ L h ((d, o) :: offs news [d])) : News h₀ L h news := by
  intro q hq
  by_cases e : q.1 = d
  · rw [news_uniq N₀ hd hq e]; exact N _ (.head _)
  · exact N _ (.tail _ (mem_offs hq (fun h => e (List.mem_singleton.mp h))))
theorem focus0 {h : Heap} {d : Addr} {o : Obj} {news : Led} (N : News h₀ L h news) (hd : (d, o) ∈ news) : News h₀ L h ((d, o) :: offs news [d]) := by
  intro q hq
  rcases List.mem_cons.mp hq with rfl | hq
  · exact N _ hd
  · exact N _ (offs_sub hq)
/-- the same value once more -/
theorem same_prev (F : Fr h₀ L s.heap m) (X₀ : (hd.heap_39 w.params).In h₀) (N : News h₀ L s.heap news) {t : Tk w.params} {n v : Value} (hm : (t.a, instObj 486 t.d) ∈ news)
    (hdm : (t.d, dictOf (t.es v n) t.cnt) ∈ news) (h : ∀ h', Fr h₀ L h' m → News h₀ L h' news → Q () { s with heap := h', toks := s.toks + 2 }) :
    wpAny (model prog w) A (setAttr (.ref t.a) (Str.ofString "previous_token") v) Q E s :=
  set_prev F X₀ (focus0 N hdm) (t := t) (p := v) (n := n) (.tail _ (mem_offs hm (fun e => by have e := List.mem_singleton.mp e; have := t.o3; have e : @Eq Nat t.a t.d := e; omega)))
    (upd_at (offs_off _ _)) fun h' F' N' => h h' F' (same_news N hdm N')
theorem same_next (F : Fr h₀ L s.heap m) (X₀ : (hd.heap_39 w.params).In h₀) (N : News h₀ L s.heap news) {t : Tk w.params} {p v : Value} (hm : (t.a, instObj 486 t.d) ∈ news)
    (hdm : (t.d, dictOf (t.es p v) t.cnt) ∈ news) (h : ∀ h', Fr h₀ L h' m → News h₀ L h' news → Q () { s with heap := h', toks := s.toks + 2 }) :
    wpAny (model prog w) A (setAttr (.ref t.a) (Str.ofString "next_token") v) Q E s :=
  set_next F X₀ (focus0 N hdm) (t := t) (p := p) (n := v) (.tail _ (mem_offs hm (fun e => by have e := List.mem_singleton.mp e; have := t.o3; have e : @Eq Nat t.a t.d := e; omega)))
    (upd_at (offs_off _ _)) fun h' F' N' => h h' F' (same_news N hdm N')
end
end Mine
end
section
open PySem PySem.W PyProof.Rows PySem.Spec PySem.Calls
namespace Mine
def tokAt {P : Params} (ts : List (Tk P)) (n : Nat) : Value := match ts[n]? with | some t => .ref t.a | none => .none
/-- what the parts are -/
structure PP (q : Nat → Bool) (n : Nat) (pp : List (List Nat)) : Prop where
  ne : 0 < pp.length
  el : ∀ ns ∈ pp, ∀ m ∈ ns, m < n ∧ q m = false
  next : ∀ ns ∈ pp, ∀ (i m m' : Nat), ns[i]? = some m → ns[i + 1]? = some m' → m' = m + 1
  head : ∀ ns ∈ pp, ∀ h, ns.head? = some h → h = 0 ∨ q (h - 1) = true
  last : ∀ ns ∈ pp, ∀ l, ns.getLast? = some l → q (l + 1) = true ∨ l + 1 = n
  cur : ∀ ns l, pp.getLast? = some ns → ns.getLast? = some l → l + 1 = n
  new : ∀ ns, pp.getLast? = some ns → ns = [] → n = 0 ∨ q (n - 1) = true
  lastq : ∀ ns ∈ pp.dropLast, ∀ l, ns.getLast? = some l → q (l + 1) = true
theorem dl_last {α : Type} {l : List α} {a : α} (h : l.getLast? = some a) : l = l.dropLast ++ [a] := by
  have hne : l ≠ [] := fun e => by subst e; simp at h
  have := List.dropLast_concat_getLast hne
  rw [List.getLast?_eq_some_getLast hne] at h
  rw [← Option.some.inj h]; exact this.symm
theorem partsU_PP (q : Nat → Bool) : ∀ n, PP q n (partsU q n)
  | 0 => by
    refine ⟨by simp [partsU], ?_, ?_, ?_, ?_, ?_, ?_, ?_⟩ <;> intros <;> simp_all [partsU]
  | n + 1 => by
    have H := partsU_PP q n
    unfold partsU
    by_cases hq : q n = true
    · rw [if_pos hq]
      refine ⟨by simp, ?_, ?_, ?_, ?_, ?_, ?_, ?_⟩
      · intro ns hns m hm
        rcases List.mem_append.mp hns with h | h
        · have := H.el ns h m hm; exact ⟨by omega, this.2⟩
        · rw [List.mem_singleton.mp h] at hm; simp at hm
      · intro ns hns i m m' h1 h2
        rcases List.mem_append.mp hns with h | h
        · exact H.next ns h i m m' h1 h2
        · rw [List.mem_singleton.mp h] at h1; simp at h1
      · intro ns hns h h1
        rcases List.mem_append.mp hns with h | h
        · exact H.head ns h _ h1
        · rw [List.mem_singleton.mp h] at h1; simp at h1
      · intro ns hns l h1
        rcases List.mem_append.mp hns with h | h
        · rcases H.last ns h l h1 with h2 | h2
          · exact .inl h2
          · rw [h2]; exact .inl hq
        · rw [List.mem_singleton.mp h] at h1; simp at h1
      · intro ns l h1 h2
        simp at h1
        subst h1; simp at h2
      · intro ns _ _
        exact .inr (by simpa using hq)
      · intro ns hns l h1
        rw [List.dropLast_concat] at hns
        rcases H.last ns hns l h1 with h2 | h2
        · exact h2
        · rw [h2]; exact hq
    · rw [if_neg hq]
      have hq : q n = false := by simpa using hq
      obtain ⟨c, hc⟩ : ∃ c, (partsU q n).getLast? = some c := ⟨_, List.getLast?_eq_some_getLast (fun e => by have := H.ne; rw [e] at this; simp at this)⟩
      have hcm : c ∈ partsU q n := List.mem_of_getLast? hc
      rw [hc]
      simp only [Option.getD_some]
      have hd : ∀ ns ∈ (partsU q n).dropLast, ns ∈ partsU q n := fun ns h => (List.dropLast_sublist _).subset h
      have hgl : ∀ (i m : Nat), (c ++ [n])[i]? = some m → (c[i]? = some m) ∨ (i = c.length ∧ m = n) := fun i m h => by
        by_cases hi : i < c.length
        · rw [List.getElem?_append_left hi] at h; exact .inl h
        · have : i = c.length := by
            have := (List.getElem?_eq_some_iff.mp h).1
            simp at this; omega
          subst this
          simp at h
          exact .inr ⟨rfl, h.symm⟩
      refine ⟨by simp, ?_, ?_, ?_, ?_, ?_, ?_, ?_⟩
      · intro ns hns m hm
        rcases List.mem_append.mp hns with h | h
        · have := H.el ns (hd _ h) m hm; exact ⟨by omega, this.2⟩
        · rw [List.mem_singleton.mp h] at hm
          rcases List.mem_append.mp hm with hm | hm
          · have := H.el c hcm m hm; exact ⟨by omega, this.2⟩
          · rw [List.mem_singleton.mp hm]; exact ⟨by omega, hq⟩
      · intro ns hns i m m' h1 h2
        rcases List.mem_append.mp hns with h | h
        · exact H.next ns (hd _ h) i m m' h1 h2
        · rw [List.mem_singleton.mp h] at h1 h2
          rcases hgl _ _ h2 with h6 | ⟨h6, e6⟩
          · rcases hgl _ _ h1 with h5 | ⟨h5, e5⟩
            · exact H.next c hcm i m m' h5 h6
            · have := (List.getElem?_eq_some_iff.mp h6).1
              omega
          · rcases hgl _ _ h1 with h5 | ⟨h5, e5⟩
            · have e : i = c.length - 1 := by omega
              have : c.getLast? = some m := by rw [List.getLast?_eq_getElem?, ← e]; exact h5
              have := H.cur c m hc this
              omega
            · omega
      · intro ns hns h h1
        rcases List.mem_append.mp hns with h2 | h2
        · exact H.head ns (hd _ h2) _ h1
        · rw [List.mem_singleton.mp h2] at h1
          cases c with
          | nil =>
            simp at h1
            subst h1
            exact H.new _ hc rfl
          | cons x y => exact H.head _ hcm _ h1
      · intro ns hns l h1
        rcases List.mem_append.mp hns with h | h
        · exact .inl (H.lastq ns h l h1)
        · rw [List.mem_singleton.mp h] at h1
          simp at h1
          exact .inr (by rw [h1])
      · intro ns l h1 h2
        simp at h1
        subst h1
        simp at h2
        rw [h2]
      · intro ns h1 h2
        simp at h1
        subst h1
        simp at h2
      · intro ns hns l h1
        rw [List.dropLast_concat] at hns
        exact H.lastq ns hns l h1
/-- lines on the ledger -/
structure LinesIn {P : Params} (led : Led) (ts : List (Tk P)) (dep : Int) (pl : Addr) (ls : List (Ln P)) (pp : List (List Nat)) : Prop where
  len : ls.length = pp.length
  each : ∀ (j : Nat) (x : Ln P) (ns : List Nat), ls[j]? = some x → pp[j]? = some ns → (∀ q ∈ x.led, q ∈ led) ∧ x.dep = dep ∧ ∃ k, (x.l, W.listOf (ns.map (tokAt ts)).toArray k) ∈ led
  nodup : (pl :: ls.map (·.l)).Nodup
  offd : ∀ x ∈ ls, ∀ t ∈ ts, x.d ≠ t.d
end Mine
end
section
open PySem PySem.W PyProof.Rows PySem.Spec PySem.Calls
namespace Mine
theorem ne_of_cls {h₀ h : Heap} {L a b : Addr} {o o' : Obj} {l : Led} (N : News h₀ L h l) (h1 : (a, o) ∈ l) (h2 : (b, o') ∈ l) (hc : o.cls ≠ o'.cls) : a ≠ b := by
  rintro rfl
  have := news_uniq N h2 h1 rfl
  exact hc (congrArg (fun q : Addr × Obj => q.2.cls) this)
theorem News.left {h₀ h : Heap} {L : Addr} {l r : Led} (N : News h₀ L h (l ++ r)) : News h₀ L h l := fun p hp => N p (List.mem_append_left _ hp)
theorem inst_ne_list {P : Params} {h₀ h : Heap} {L b : Addr} {nx : Led} {x : Ln P} {vs : Array Value} {k : Nat} (N : News h₀ L h nx) (hx : ∀ q ∈ x.led, q ∈ nx) (hb : (b, W.listOf vs k) ∈ nx) : ∀ q ∈ x.led, q.1 ≠ b := by
  intro q hq
  have h := hx q hq
  simp only [Ln.led, List.mem_cons, List.not_mem_nil, or_false] at hq
  rcases hq with rfl | rfl
  · exact ne_of_cls N h hb (by intro e; cases e)
  · exact ne_of_cls N h hb (by intro e; have e2 : Value.type "dict" = Value.type "list" := e; exact absurd (Value.type.inj e2) (by decide))
theorem LinesIn.semi {P : Params} {h₀ h : Heap} {L : Addr} {nx led' : Led} {ts : List (Tk P)} {dep : Int} {pl : Addr} {ls : List (Ln P)} {pp : List (List Nat)} (N : News h₀ L h nx) (H : LinesIn nx ts dep pl ls pp) {pvs : Array Value} {kp : Nat} (hpl : (pl, W.listOf pvs kp) ∈ nx)
    {y : Ln P} {k' : Nat} (hy : ∀ q ∈ y.led, q ∈ led') (hyd : y.dep = dep) (hyl : (y.l, W.listOf #[] k') ∈ led') (hyn : y.l ∉ pl :: ls.map (·.l)) (hyo : ∀ t ∈ ts, y.d ≠ t.d) (h3 : ∀ q ∈ nx, q.1 ≠ pl → q ∈ led') : LinesIn led' ts dep pl (ls ++ [y]) (pp ++ [[]]) := by
  have hnd := H.nodup
  refine ⟨by simp [H.len], ?_, ?_, fun x hx t ht => ?_⟩
  rotate_left 2
  · rcases List.mem_append.mp hx with h | h
    · exact H.offd x h t ht
    · rw [List.mem_singleton.mp h]; exact hyo t ht
  · intro j x ns ha hp
    by_cases hj : j < ls.length
    · rw [List.getElem?_append_left hj] at ha
      rw [List.getElem?_append_left (H.len ▸ hj)] at hp
      obtain ⟨h1, h2, k, hm⟩ := H.each j x ns ha hp
      refine ⟨fun q hq => h3 q (h1 q hq) (inst_ne_list N h1 hpl q hq), h2, k, h3 _ hm fun e => ?_⟩
      have : x.l ∈ ls.map (·.l) := List.mem_map.mpr ⟨x, List.mem_of_getElem? ha, rfl⟩
      have e : x.l = pl := e
      rw [e] at this
      exact (List.nodup_cons.mp hnd).1 this
    · have hj2 : j = ls.length := by
        have := (List.getElem?_eq_some_iff.mp ha).1
        simp at this; omega
      subst hj2
      rw [List.getElem?_append_right (Nat.le_refl _)] at ha
      rw [List.getElem?_append_right (Nat.le_of_eq H.len.symm), H.len] at hp
      simp at ha hp
      subst ha; subst hp
      exact ⟨hy, hyd, k', hyl⟩
  · rw [List.map_append, ← List.cons_append, List.nodup_append]
    refine ⟨hnd, by simp, fun x hx z hz e => ?_⟩
    simp at hz
    rw [hz] at e
    exact hyn (e ▸ hx)
theorem LinesIn.app {P : Params} {h₀ h : Heap} {L : Addr} {nx led' : Led} {ts : List (Tk P)} {dep : Int} {pl : Addr} {ds : List (Ln P)} {cur : Ln P} {pp : List (List Nat)} (N : News h₀ L h nx) (H : LinesIn nx ts dep pl (ds ++ [cur]) pp)
    {c : List Nat} {n k : Nat} (hp : pp.getLast? = some c) (h1 : (cur.l, W.listOf ((c ++ [n]).map (tokAt ts)).toArray k) ∈ led') (h3 : ∀ q ∈ nx, q.1 ≠ cur.l → q ∈ led') : LinesIn led' ts dep pl (ds ++ [cur]) (pp.dropLast ++ [(pp.getLast?.getD []) ++ [n]]) := by
  have hnd := H.nodup
  have hlen := H.len
  have hpl : 0 < pp.length := by cases pp with | nil => simp at hp | cons _ _ => simp
  simp at hlen
  obtain ⟨_, _, k0, hcm⟩ := H.each ds.length cur c (by simp) (by rw [← hp, List.getLast?_eq_getElem?]; congr 1; omega)
  refine ⟨by simp; omega, ?_, hnd, H.offd⟩
  intro j x ns hja hjp
  by_cases hj : j < pp.dropLast.length
  · rw [List.getElem?_append_left hj, List.getElem?_dropLast] at hjp
    have hj' : j < pp.length - 1 := by simpa using hj
    rw [if_pos hj'] at hjp
    obtain ⟨g1, g2, kk, hm⟩ := H.each j x ns hja hjp
    refine ⟨fun q hq => h3 q (g1 q hq) (inst_ne_list N g1 hcm q hq), g2, kk, h3 _ hm fun e => ?_⟩
    have hnd2 := (List.nodup_cons.mp hnd).2
    have e : x.l = cur.l := e
    have hjd : j < ds.length := by omega
    rw [List.getElem?_append_left hjd] at hja
    rw [List.map_append, List.nodup_append] at hnd2
    exact hnd2.2.2 x.l (List.mem_map.mpr ⟨x, List.mem_of_getElem? hja, rfl⟩) cur.l (by simp) e
  · have hj2 : j = ds.length := by
      have := (List.getElem?_eq_some_iff.mp hjp).1
      simp at this hj; omega
    subst hj2
    simp at hja
    subst hja
    rw [List.getElem?_append_right (by simp; omega)] at hjp
    have : ds.length - pp.dropLast.length = 0 := by simp; omega
    rw [this] at hjp
    simp at hjp
    rw [hp] at hjp
    simp at hjp
    subst hjp
    obtain ⟨g1, g2, kk, hm⟩ := H.each ds.length cur c (by simp) (by rw [← hp, List.getLast?_eq_getElem?]; congr 1; omega)
    exact ⟨fun q hq => h3 q (g1 q hq) (inst_ne_list N g1 hcm q hq), g2, k, h1⟩
theorem LinesIn.mono {P : Params} {nx led' : Led} {ts : List (Tk P)} {dep : Int} {pl : Addr} {ls : List (Ln P)} {pp : List (List Nat)} (H : LinesIn nx ts dep pl ls pp) (h3 : ∀ q ∈ nx, q ∈ led') : LinesIn led' ts dep pl ls pp :=
  ⟨H.len, fun j x ns h1 h2 => have ⟨a, b, k, c⟩ := H.each j x ns h1 h2; ⟨fun q hq => h3 q (a q hq), b, k, h3 _ c⟩, H.nodup, H.offd⟩
theorem TIn.mono {P : Params} {ts : List (Tk P)} {pv nx : Nat → Value} {led led' : Led} (h : TIn ts pv nx led) (h3 : ∀ q ∈ led, q ∈ led') : TIn ts pv nx led' := fun i t hi q hq => h3 q (h i t hi q hq)
theorem partsU_last_len (q : Nat → Bool) : ∀ n ns, (partsU q n).getLast? = some ns → ns.length ≤ n
  | 0, ns, h => by simp [partsU] at h; subst h; simp
  | n + 1, ns, h => by
    unfold partsU at h
    split at h
    · simp at h; subst h; simp
    · simp at h; subst h
      cases hg : (partsU q n).getLast? with
      | none => simp
      | some l => have := partsU_last_len q n l hg; simp; omega
theorem names1 {h₀ h : Heap} {L pl : Addr} {o1 : Obj} {news : Led} (N : News h₀ L h ((pl, o1) :: news)) : ∃ pl', pl' = pl := ⟨_, rfl⟩
theorem names2 {h₀ h : Heap} {L pl al : Addr} {o1 o2 : Obj} {news : Led} (N : News h₀ L h ((pl, o1) :: (al, o2) :: news)) : ∃ pl' al', pl' = pl ∧ al' = al := ⟨_, _, rfl, rfl⟩
end Mine
end
section
open PySem PySem.W PyProof.Rows PySem.Spec PySem.Calls
namespace Mine
def dueU (q : Nat → Bool) (n : Nat) : List (List Nat) := match (partsU q n).getLast? with | some [] => (partsU q n).dropLast | _ => partsU q n
def OffD {P : Params} (ts : List (Tk P)) (q : Addr × Obj) : Prop := ∀ t ∈ ts, q.1 ≠ t.d
def pvK {P : Params} (ts : List (Tk P)) (hs : List (List Nat)) (i : Nat) : Value := if hs.any (fun ns => ns.head? == some i) then .none else pv0 ts i
def nxK {P : Params} (ts : List (Tk P)) (hs : List (List Nat)) (i : Nat) : Value := if hs.any (fun ns => ns.getLast? == some i) then .none else nx0 ts i
theorem pvK_nil {P : Params} (ts : List (Tk P)) : pvK ts [] = pv0 ts := by funext i; simp [pvK]
theorem nxK_nil {P : Params} (ts : List (Tk P)) : nxK ts [] = nx0 ts := by funext i; simp [nxK]
theorem pvK_succ {P : Params} {ts : List (Tk P)} {hs : List (List Nat)} {ns : List Nat} {f : Nat} (h : ns.head? = some f) : pvK ts (hs ++ [ns]) = updV (pvK ts hs) f .none := by
  funext i
  simp only [pvK, updV, List.any_append, List.any_cons, List.any_nil, Bool.or_false, h]
  by_cases e : i = f
  · subst e; simp
  · have : (some f == some i) = false := by simpa using fun h => e h.symm
    rw [if_neg e, this, Bool.or_false]
theorem nxK_succ {P : Params} {ts : List (Tk P)} {hs : List (List Nat)} {ns : List Nat} {f : Nat} (h : ns.getLast? = some f) : nxK ts (hs ++ [ns]) = updV (nxK ts hs) f .none := by
  funext i
  simp only [nxK, updV, List.any_append, List.any_cons, List.any_nil, Bool.or_false, h]
  by_cases e : i = f
  · subst e; simp
  · have : (some f == some i) = false := by simpa using fun h => e h.symm
    rw [if_neg e, this, Bool.or_false]
theorem updV_same (v : Nat → Value) (f : Nat) : updV v f (v f) = v := by
  funext i
  simp only [updV]
  split
  · rename_i h; rw [h]
  · rfl
theorem LinesIn.offT {P : Params} {h₀ h : Heap} {L : Addr} {nx led' : Led} {ts : List (Tk P)} {dep : Int} {pl : Addr} {ls : List (Ln P)} {pp : List (List Nat)} {pv nxv : Nat → Value} (N : News h₀ L h nx) (hT : TIn ts pv nxv nx) (H : LinesIn nx ts dep pl ls pp) (h3 : ∀ q ∈ nx, OffD ts q → q ∈ led') : LinesIn led' ts dep pl ls pp := by
  refine ⟨H.len, fun j x ns h1 h2 => ?_, H.nodup, H.offd⟩
  obtain ⟨a, b, k, c⟩ := H.each j x ns h1 h2
  have hd : ∀ t ∈ ts, ∃ o, (t.d, o) ∈ nx ∧ o.cls = .type "dict" := fun t ht => by
    obtain ⟨i, hi⟩ := List.mem_iff_getElem?.mp ht
    exact ⟨_, hT i t hi (t.d, dictOf (t.es (pv i) (nxv i)) t.cnt) (by simp [Tk.led]), rfl⟩
  refine ⟨fun q hq => h3 q (a q hq) fun t ht => ?_, b, k, h3 _ c fun t ht => ?_⟩
  · have h := a q hq
    simp only [Ln.led, List.mem_cons, List.not_mem_nil, or_false] at hq
    rcases hq with rfl | rfl
    · obtain ⟨o, ho, hc⟩ := hd t ht
      exact ne_of_cls N h ho (by rw [hc]; intro e; cases e)
    · exact H.offd x (List.mem_of_getElem? h1) t ht
  · obtain ⟨o, ho, hc⟩ := hd t ht
    exact ne_of_cls N c ho (by rw [hc]; intro e; have e2 : Value.type "list" = Value.type "dict" := e; exact absurd (Value.type.inj e2) (by decide))
theorem dueU_nil {q : Nat → Bool} {n : Nat} {cc : List Nat} (h : (partsU q n).getLast? = some cc) (h2 : cc.isEmpty = true) : dueU q n = (partsU q n).dropLast := by
  unfold dueU
  rw [h]
  cases cc with
  | nil => rfl
  | cons a b => simp at h2
theorem dueU_cons {q : Nat → Bool} {n : Nat} {cc : List Nat} (h : (partsU q n).getLast? = some cc) (h2 : cc.isEmpty = false) : dueU q n = partsU q n := by
  unfold dueU
  rw [h]
  cases cc with
  | nil => simp at h2
  | cons a b => rfl
theorem dueU_sub {q : Nat → Bool} {n : Nat} : ∀ ns ∈ dueU q n, ns ∈ partsU q n := by
  intro ns h
  unfold dueU at h
  split at h
  · exact (List.dropLast_sublist _).subset h
  · exact h
theorem LinesIn.dropLast {P : Params} {nx : Led} {ts : List (Tk P)} {dep : Int} {pl : Addr} {ds : List (Ln P)} {cur : Ln P} {pp : List (List Nat)} (H : LinesIn nx ts dep pl (ds ++ [cur]) pp) : LinesIn nx ts dep pl ds pp.dropLast := by
  have hl := H.len
  simp at hl
  refine ⟨by simp; omega, fun j x ns h1 h2 => ?_, ?_, fun x hx => H.offd x (List.mem_append_left _ hx)⟩
  · rw [List.getElem?_dropLast] at h2
    have hj := (List.getElem?_eq_some_iff.mp h1).1
    rw [if_pos (by omega)] at h2
    exact H.each j x ns (by rw [List.getElem?_append_left hj]; exact h1) h2
  · have := H.nodup
    rw [List.map_append, ← List.cons_append, List.nodup_append] at this
    exact this.1
section
variable {prog : Program} {w : World} {A : Around} {E : Value → Shared → Prop} {s : Shared} {h₀ : Heap} {L : Addr} {m : Str → Option Value} {news news' : Led} {Q : Unit → Shared → Prop}
theorem upd_prev (F : Fr h₀ L s.heap m) (X₀ : (hd.heap_39 w.params).In h₀) (N : News h₀ L s.heap news) {t : Tk w.params} {p n v : Value} (hm : (t.a, instObj 486 t.d) ∈ news)
    (hdm : (t.d, dictOf (t.es p n) t.cnt) ∈ news) (h : ∀ h', Fr h₀ L h' m → News h₀ L h' ((t.d, dictOf (t.es v n) t.cnt) :: offs news [t.d]) → Q () { s with heap := h', toks := s.toks + 2 }) :
    wpAny (model prog w) A (setAttr (.ref t.a) (Str.ofString "previous_token") v) Q E s :=
  set_prev F X₀ (focus0 N hdm) (t := t) (p := p) (n := n) (.tail _ (mem_offs hm (fun e => by have e := List.mem_singleton.mp e; have := t.o3; have e : @Eq Nat t.a t.d := e; omega)))
    (upd_at (offs_off _ _)) h
theorem upd_next (F : Fr h₀ L s.heap m) (X₀ : (hd.heap_39 w.params).In h₀) (N : News h₀ L s.heap news) {t : Tk w.params} {p n v : Value} (hm : (t.a, instObj 486 t.d) ∈ news)
    (hdm : (t.d, dictOf (t.es p n) t.cnt) ∈ news) (h : ∀ h', Fr h₀ L h' m → News h₀ L h' ((t.d, dictOf (t.es p v) t.cnt) :: offs news [t.d]) → Q () { s with heap := h', toks := s.toks + 2 }) :
    wpAny (model prog w) A (setAttr (.ref t.a) (Str.ofString "next_token") v) Q E s :=
  set_next F X₀ (focus0 N hdm) (t := t) (p := p) (n := n) (.tail _ (mem_offs hm (fun e => by have e := List.mem_singleton.mp e; have := t.o3; have e : @Eq Nat t.a t.d := e; omega)))
    (upd_at (offs_off _ _)) h
end
end Mine
namespace Mine
open PySem PySem.W PyProof.Rows PySem.Spec PySem.Calls
theorem LinesIn.keepL {P : Params} {h₀ h : Heap} {L : Addr} {nx led' : Led} {ts : List (Tk P)} {dep : Int} {pl : Addr} {ls : List (Ln P)} {pp : List (List Nat)} (N : News h₀ L h nx) (H : LinesIn nx ts dep pl ls pp) {pvs : Array Value} {kp : Nat} (hpl : (pl, W.listOf pvs kp) ∈ nx)
    (h3 : ∀ q ∈ nx, q.1 ≠ pl → q ∈ led') : LinesIn led' ts dep pl ls pp := by
  have hnd := H.nodup
  refine ⟨H.len, fun j x ns ha hp => ?_, hnd, H.offd⟩
  obtain ⟨h1, h2, k, hm⟩ := H.each j x ns ha hp
  refine ⟨fun q hq => h3 q (h1 q hq) (inst_ne_list N h1 hpl q hq), h2, k, h3 _ hm fun e => ?_⟩
  have : x.l ∈ ls.map (·.l) := List.mem_map.mpr ⟨x, List.mem_of_getElem? ha, rfl⟩
  have e : x.l = pl := e
  rw [e] at this
  exact (List.nodup_cons.mp hnd).1 this
end Mine
namespace Mine
open PySem PySem.W PyProof.Rows PySem.Spec PySem.Calls
theorem item_out_mem {prog : Program} {w : World} {A : Around} {E : Value → Shared → Prop} {s : Shared} {h₀ : Heap} {L : Addr} {news : Led} {Q : Value → Shared → Prop} {value slice : PySem.Expr} {l : Addr} {vs : List Value} {kk : Nat} {u : Tok} (hA : A.handled = none) (N : News h₀ L s.heap news) (h : (l, W.listOf vs.toArray kk) ∈ news) (hz : vs.length = 0)
    (hE : ∀ h' tk e, Heap.NewExc s.heap h' e "IndexError" → E (.ref e) { s with heap := h', toks := tk })
    (hs : subscripted slice false (.ref l) (.int 0 u) = operate [.ref l, .int 0 u] (getItem (.ref l) (.int 0 u))) :
    wpAny (model prog w) A (subscriptTail value slice (.ref l) (.int 0 u)) Q E s :=
  item_outK hA (isl_mem N h) (.inr (by rw [List.size_toArray, hz]; decide)) (by decide) (by decide) hE hs
theorem item0_mem {prog : Program} {w : World} {A : Around} {E : Value → Shared → Prop} {s : Shared} {h₀ : Heap} {L : Addr} {news : Led} {Q : Value → Shared → Prop} {value slice : PySem.Expr} {l : Addr} {vs : List Value} {kk : Nat} {u : Tok} {v : Value} (N : News h₀ L s.heap news) (h : (l, W.listOf vs.toArray kk) ∈ news)
    (hx : vs[0]? = some v) (hq : Q v s)
    (hs : subscripted slice false (.ref l) (.int 0 u) = operate [.ref l, .int 0 u] (getItem (.ref l) (.int 0 u))) (hg : ∀ r, letTemporaryGo value (.ref l) r = pure ()) :
    wpAny (model prog w) A (subscriptTail value slice (.ref l) (.int 0 u)) Q E s :=
  item_mem N h (by decide) (by decide) hx hq hs hg
end Mine
end
section
open PySem PySem.W PyProof.Rows PySem.Spec PySem.Calls
namespace Mine
theorem idx_not_attr : isSubtype (.type "IndexError") (.type "AttributeError") = pure false := by rw [isSubtype_type]; kernel_rfl
theorem noteIf_skip {prog : Program} {w : World} {A : Around} {E : Value → Shared → Prop} {s : Shared} {Q : Unit → Shared → Prop} {e : Addr} {ob : Obj} {o name : Value} (he : s.heap.get? e = some ob) (hc : ob.cls = .type "IndexError") (h : Q () s) :
    wpAny (model prog w) A (noteIf true o name (.ref e)) Q E s := by
  show wpAny _ _ (noteAttr (.ref e) o name) Q E s
  unfold noteAttr
  show wpAny _ _ (lacksNameAndObj (.ref e) >>= _) Q E s
  refine wpAny_bind ?_
  unfold lacksNameAndObj
  show wpAny _ _ (isInstance (.ref e) (.type "AttributeError") >>= _) _ _ _
  refine wpAny_bind ?_
  unfold isInstance
  refine wpAny_bind (wpAny_typeOf (T := "IndexError") ⟨_, he, hc⟩ ?_)
  rw [idx_not_attr]
  exact wpAny_pure (wpAny_pure (wpAny_pure h))
end Mine
end
section
open PySem PySem.W PyProof.Rows PySem.Spec PySem.Calls
namespace Mine
section
variable {prog : Program} {w : World} {A₀ A : Around} {s : Shared} {base h₀ : Heap} {L : Addr} {m : Str → Option Value} {env : Env} {news : List (Addr × Obj)} {K : Frag}
  {p : Program} {loose : List Str} {mean : ExcName → Option Value} {mg mb : Str → Option Value}
  {R : Result → Shared → Prop} {name qual : Str} {params : Arguments} {body : List Stmt} {scope : Scope} {dV kV doc pm cdv ct oc : Value} {an od : Option Addr} {osl : Array (Option Value)} {f : Addr} {args : Args} {binds : List (Str × Value)}
/-- after a turn of the one frame below: its caller stands as it stood -/
theorem turn_back {g g' h' : Heap} {L' : Addr} {m' : Str → Option Value} {news' : Led} (F₀ : Fr h₀ L s.heap m) (Fg : Fr h₀ L g m) (st : h₀.StaysIn g) (T : KtsTurn [L] g g') (F' : Fr g' L' h' m') (N' : News g' L' h' news') : Fr h₀ L h' m ∧ News h₀ L h' news' := by
  have nL : h₀.get? L = none := kts_self F₀
  obtain ⟨oL, es, ep, hL, hLd, hLk, hLf⟩ := Fg.ns
  obtain ⟨sl, hs⟩ := T.frame L oL hL (by simp)
  have up : ∀ b o, h₀.get? b = some o → g'.get? b = some o := fun b o e => T.other b o (st b o e) (fun q => by
    rw [List.mem_singleton.mp q, nL] at e; cases e)
  refine ⟨⟨⟨_, es, ep, F'.keep _ _ hs, hLd, hLk, hLf⟩, fun b o e => F'.keep b o (up b o e), F₀.above⟩, fun q hq => ⟨(N' q hq).1, fun e => ?_, ?_⟩⟩
  · have := (N' q hq).2.2
    rw [e, hs] at this; cases this
  · cases hz : h₀.get? q.1 with
    | none => rfl
    | some o =>
      have := (N' q hq).2.2
      rw [up _ _ hz] at this; cases this
theorem enterS (B : Below A₀ base [] h₀) (F : Fr h₀ L s.heap m) (X₀ : K.In h₀) (N : News h₀ L s.heap news) (T : Top p loose mean mg mb h₀) (hA : A.frames = some [env]) (hf : env.frame = some L) (hke : env.scope.kind = .function)
    (ho : K.lookup f = some ⟨oc, od, .func (fnOf name qual params body scope dV kV doc pm an cdv ct), osl⟩) (hcd : codeIn K cdv qual = true) (hroom : A.depth < recursionLimit)
    (hbind : BindsTo s (fnOf name qual params body scope dV kV doc pm an cdv ct) args binds) (hloc : ∀ y ∈ binds, scope.names.lookup y.1 = some .local)
    (h : ∀ g L' h₁, Fr h₀ L g m → h₀.StaysIn g → Fr g L' h₁ (fun y => binds.reverse.lookup y) → News g L' h₁ news → Below A base [env] g → K.In g → Top p loose mean mg mb g → KtsDicts ([env].filterMap (·.frame)) g →
      wpAny (model prog w) (A.deeper (envOf qual scope L' f cdv)) (execs body (envOf qual scope L' f cdv))
        (fun fl s' => R (.ok (.ret (match fl with | .ret v => v | _ => .none))) s')
        (fun e s' => wpAny (model prog w) (A.deeper (envOf qual scope L' f cdv)) («leaving» (envOf qual scope L' f cdv) e) (fun _ s'' => R (.error e) s'') (fun e' s'' => R (.error e') s'') s')
        { s with heap := h₁, toks := s.toks + binds.length })
    (hco : scope.isCoroutine = false) (hgen : scope.isGenerator = false) (hk : scope.kind = .function)
    (hcell : ∀ x ∈ scope.names, x.2 ≠ .cell) : codeAny (model prog w) A (.call (.ref f) args) R s := by
  obtain ⟨FG, B', st, _⟩ := groundX (R := R) B F N hA hf hke
  refine codeAny_call_def (fd := fnOf name qual params body scope dV kV doc pm an cdv ct) (body := body) (binds := binds) hroom ((X₀.keeps F.keep) _ _ ho) rfl (T.nolimit.keeps F.keep) (codeRec_of (X₀.keeps F.keep) hcd) rfl hbind hcell hloc (fun h₁ hns hk₁ => ?_) hco hgen hk
  refine h _ s.heap.objs.size h₁ FG st ⟨hns, fun b o e => hk₁ b o (of_hideAll _ e), Nat.le_of_eq (hideAll_size _ _)⟩ (fun q hq => ⟨hk₁ _ _ (N q hq).1, Nat.ne_of_lt (Heap.lt_size (N q hq).1), hideAll_none _ (List.mem_map_of_mem hq)⟩) B' (X₀.keeps st) (T.keeps st) ?_
  intro b hb
  obtain ⟨e, he, hfe⟩ := List.mem_filterMap.mp hb
  rw [List.mem_singleton.mp he, hf] at hfe
  obtain ⟨oL, es, ep, hL, hLd, _⟩ := FG.ns
  exact ⟨oL, es, ep, (Option.some.inj hfe) ▸ hL, hLd⟩
end
end Mine
end
section
open PySem PySem.W PyProof.Rows PySem.Spec PySem.Calls
namespace Mine
section
variable {prog : Program} {w : World} {A : Around} {E : Value → Shared → Prop} {s : Shared} {h₀ : Heap} {L : Addr} {m : Str → Option Value} {env : Env}
theorem comp_ind {elt : PySem.Expr} {x : Str} {scope : Scope} {cl : List (Str × Addr)} {S : Led → Prop} {P : Nat → Value → Prop} {Fin : List Value → Led → Prop} {n : Nat} {news : Led} (Inv : Nat → List Value → Led → Prop)
    (h0 : Inv 0 [] news) (fin : ∀ ys nx, Inv n ys nx → Fin ys nx)
    (turn : ∀ i ys nx v I oI C oC D m₂ h tk (E' : Value → Shared → Prop), i < n → Inv i ys nx → P i v → LCg.NsObj oC m₂ → m₂ x = some v → Fr h₀ L h m → News h₀ L h ((I, oI) :: (C, oC) :: (D, LCg.lst ys) :: nx) → LCg.Off3 I C D nx → ((@Ne Nat I C) ∧ (@Ne Nat I D) ∧ (@Ne Nat C D)) →
      wpAny (model prog w) A (eval elt (compEnvC scope cl C env)) (LCg.CompEnd h₀ L m { s with heap := h, toks := tk } I oI C oC D (LCg.lst ys) S (fun y nx' => Inv (i + 1) (ys ++ [y]) nx')) E' { s with heap := h, toks := tk }) :
    LCg.CompRest prog w A h₀ L m env elt x scope cl s S P Fin n 0 [] news := by
  have key : ∀ k i ys nx, i + k = n → Inv i ys nx → LCg.CompRest prog w A h₀ L m env elt x scope cl s S P Fin k i ys nx := by
    intro k
    induction k with
    | zero => intro i ys nx e h; exact LCg.CompRest.zero (fin ys nx (by have : i = n := by omega
                                                                        subst this; exact h))
    | succ k ih =>
      intro i ys nx e h
      refine LCg.CompRest.succ fun v I oI C oC D m₂ h' tk E' hP hC hx F N off ne => ?_
      refine wpAny_mono (turn i ys nx v I oI C oC D m₂ h' tk E' (by omega) h hP hC hx F N off ne) (fun y s₂ hy => ?_) fun _ _ e => e
      obtain ⟨h₂, tk₂, nx', rfl, F₂, N₂, off₂, hS, r⟩ := hy
      exact ⟨h₂, tk₂, nx', rfl, F₂, N₂, off₂, hS, ih (i + 1) _ nx' (by omega) r⟩
  exact key n 0 [] news (by omega) h0
end
end Mine
end
section
open PySem PySem.W PyProof.Rows PySem.Spec PySem.Calls
namespace Mine
def bodyOf : Stmt → List Stmt
  | .FunctionDef _ _ b _ _ _ _ _ _ _ => b
  | .For _ _ b _ _ => b
  | _ => []
def scopeOf : Stmt → Scope
  | .FunctionDef _ _ _ _ _ _ s _ _ _ => s
  | _ => default
def lawStmt : Stmt := (PySem.Challenge.pw_bu5043_01.main.body.getLast?).getD default
abbrev lawEnv (L a : Addr) (ccd : Value) (cl : List (Str × Addr)) : Env := envX (Str.ofString "law") (scopeOf lawStmt) L a ccd cl
def lawFrom (k : Nat) : List Stmt := (bodyOf lawStmt).drop k
def lawLoop (k : Nat) : List Stmt := bodyOf ((lawFrom k).headD default)
abbrev lawCells (cT cL cP cM : Addr) : List (Str × Addr) := [(Str.ofString "mine", cM), (Str.ofString "part", cP), (Str.ofString "line", cL), (Str.ofString "tokens", cT)]
theorem show_body {w : World} {A : Around} {Q : Flow → Shared → Prop} {E : Value → Shared → Prop} {s : Shared} {L a : Addr} {ccd : Value} {cl : List (Str × Addr)} {k : Nat} (h : wpAny (model pr w) A (execs (lawLoop k) (lawEnv L a ccd cl)) Q E s) : wpAny (model pr w) A (execs (lawLoop k) (lawEnv L a ccd cl)) Q E s := h
def okV (v : Str) : Prop := v = Str.ofString "a" ∨ v = Str.ofString ";" ∨ v = Str.ofString "bcd" ∨ v = Str.ofString "(" ∨ v = Str.ofString "# e"
end Mine
end
section
open PySem PySem.W PyProof.Rows PySem.Spec PySem.Calls
namespace Mine
section
variable {prog : Program} {w : World} {A : Around} {E : Value → Shared → Prop} {s : Shared} {h₀ : Heap} {L : Addr} {m : Str → Option Value} {env : Env}
/-- a comprehension whose element leaves the ledger as it is -/
theorem comp_same {elt : PySem.Expr} {x : Str} {scope : Scope} {cl : List (Str × Addr)} {S : Led → Prop} {P : Nat → Value → Prop} {Fin : List Value → Led → Prop} {n : Nat} {news : Led} (R : Nat → Value → Prop)
    (hS : S news) (fin : ∀ ys, ys.length = n → (∀ (i : Nat) (y : Value), ys[i]? = some y → R i y) → Fin ys news)
    (turn : ∀ i v I oI C oC D ys m₂ h tk (E' Q' : Value → Shared → Prop), i < n → P i v → LCg.NsObj oC m₂ → m₂ x = some v → Fr h₀ L h m → News h₀ L h ((I, oI) :: (C, oC) :: (D, LCg.lst ys) :: news) →
      (∀ y h' tk', R i y → Fr h₀ L h' m → News h₀ L h' ((I, oI) :: (C, oC) :: (D, LCg.lst ys) :: news) → Q' y { s with heap := h', toks := tk' }) →
      wpAny (model prog w) A (eval elt (compEnvC scope cl C env)) Q' E' { s with heap := h, toks := tk }) :
    LCg.CompRest prog w A h₀ L m env elt x scope cl s S P Fin n 0 [] news := by
  refine comp_ind (fun i ys nx => nx = news ∧ ys.length = i ∧ ∀ (j : Nat) (y : Value), ys[j]? = some y → R j y) ⟨rfl, rfl, by simp⟩ ?_ ?_
  · rintro ys nx ⟨rfl, h1, h2⟩
    exact fin ys h1 h2
  · rintro i ys nx v I oI C oC D m₂ h tk E' hi ⟨rfl, h1, h2⟩ hP hC hx F N off ne
    refine turn i v I oI C oC D ys m₂ h tk E' _ hi hP hC hx F N fun y h' tk' hR F' N' => ?_
    refine ⟨h', tk', nx, rfl, F', N', off, hS, rfl, by simp [h1], fun j z hz => ?_⟩
    by_cases hj : j < ys.length
    · rw [List.getElem?_append_left hj] at hz; exact h2 j z hz
    · have : j = ys.length := by
        have := (List.getElem?_eq_some_iff.mp hz).1
        simp at this; omega
      subst this
      simp at hz; subst hz
      rw [h1]; exact hR
/-- the same with a test -/
theorem comp_test {ct elt : PySem.Expr} {x : Str} {scope : Scope} {cl : List (Str × Addr)} {S : Led → Prop} {P : Nat → Value → Prop} {Fin : List Value → Led → Prop} {n : Nat} {news : Led} (q : Nat → Bool) (f : Nat → Value)
    (hS : S news) (fin : Fin (((List.range n).filter q).map f) news)
    (turn : ∀ i v I oI C oC D ys m₂ h tk (E' : Value → Shared → Prop) (Q' : Bool → Shared → Prop), i < n → P i v → LCg.NsObj oC m₂ → m₂ x = some v → Fr h₀ L h m → News h₀ L h ((I, oI) :: (C, oC) :: (D, LCg.lst ys) :: news) →
      (∀ h' tk', Fr h₀ L h' m → News h₀ L h' ((I, oI) :: (C, oC) :: (D, LCg.lst ys) :: news) → Q' (q i) { s with heap := h', toks := tk' }) →
      wpAny (model prog w) A (isTrue ct (compEnvC scope cl C env) (eval ct (compEnvC scope cl C env))) Q' E' { s with heap := h, toks := tk })
    (item : ∀ i v I oI C oC D ys m₂ h tk (E' Q' : Value → Shared → Prop), i < n → P i v → q i = true → LCg.NsObj oC m₂ → m₂ x = some v → Fr h₀ L h m → News h₀ L h ((I, oI) :: (C, oC) :: (D, LCg.lst ys) :: news) →
      (∀ h' tk', Fr h₀ L h' m → News h₀ L h' ((I, oI) :: (C, oC) :: (D, LCg.lst ys) :: news) → Q' (f i) { s with heap := h', toks := tk' }) →
      wpAny (model prog w) A (eval elt (compEnvC scope cl C env)) Q' E' { s with heap := h, toks := tk }) :
    LCt.CompRestT prog w A h₀ L m env ct elt x scope cl s S P Fin n 0 [] news := by
  have key : ∀ k i, i + k = n → LCt.CompRestT prog w A h₀ L m env ct elt x scope cl s S P Fin k i (((List.range i).filter q).map f) news := by
    intro k
    induction k with
    | zero => intro i e; have : i = n := by omega
              subst this; exact LCt.CompRestT.zero fin
    | succ k ih =>
      intro i e
      refine LCt.CompRestT.succ fun v I oI C oC D m₂ h' tk E' hP hC hx F N off ne => ?_
      refine turn i v I oI C oC D _ m₂ h' tk E' _ (by omega) hP hC hx F N fun h₂ tk₂ F₂ N₂ => ?_
      have ih' := ih (i + 1) (by omega)
      rw [List.range_succ, List.filter_append, List.map_append] at ih'
      cases hq : q i with
      | true =>
        rw [if_pos rfl]
        refine item i v I oI C oC D _ m₂ h₂ tk₂ E' _ (by omega) hP hq hC hx F₂ N₂ fun h₃ tk₃ F₃ N₃ => ?_
        refine ⟨h₃, tk₃, news, rfl, F₃, N₃, off, hS, ?_⟩
        simpa [hq] using ih'
      | false =>
        rw [if_neg (by decide)]
        refine ⟨h₂, tk₂, news, rfl, F₂, N₂, off, hS, ?_⟩
        simpa [hq] using ih'
  exact key n 0 (by omega)
end
section
variable {prog : Program} {w : World} {A : Around} {E : Value → Shared → Prop} {s : Shared} {h₀ : Heap} {L : Addr} {m : Str → Option Value} {env : Env}
theorem src_list {elt : PySem.Expr} {x : Str} {scope : Scope} {cl : List (Str × Addr)} {Fin : Shared → List Value → Led → Prop} {ax : Addr} {vs : List Value} {k : Nat} {news : Led} (R : Nat → Value → Prop)
    (hh : A.handled = none) (F : Fr h₀ L s.heap m) (N : News h₀ L s.heap news) (hm : (ax, W.listOf vs.toArray k) ∈ news) (hsz : vs.length ≤ 1000)
    (fin : ∀ g ys, ys.length = vs.length → (∀ (i : Nat) (y : Value), ys[i]? = some y → R i y) → Fin { s with heap := g } ys news)
    (turn : ∀ i v I oI C oC D ys m₂ h tk (E' Q' : Value → Shared → Prop), vs[i]? = some v → LCg.NsObj oC m₂ → m₂ x = some v → Fr h₀ L h m → News h₀ L h ((I, oI) :: (C, oC) :: (D, LCg.lst ys) :: news) →
      (∀ y h' tk', R i y → Fr h₀ L h' m → News h₀ L h' ((I, oI) :: (C, oC) :: (D, LCg.lst ys) :: news) → Q' y { s with heap := h', toks := tk' }) →
      wpAny (model prog w) A (eval elt (compEnvC scope cl C env)) Q' E' { s with heap := h, toks := tk }) :
    LCg.CompSrc prog w A h₀ L m env elt x scope cl Fin (.ref ax) s := by
  refine LCg.CompSrc.ledger hh F N hm (by rw [List.size_toArray]; exact Nat.le_trans hsz (by decide)) fun g => ?_
  rw [List.size_toArray]
  refine comp_same R (.inr ⟨_, hm, rfl, _, rfl⟩) (fin g) ?_
  intro i v I oI C oC D ys m₂ h tk E' Q' hi hv hC hx F' N' hq
  exact turn i v I oI C oC D ys m₂ h tk E' Q' (by simpa using hv) hC hx F' N' hq
theorem range_size0 (n : Nat) : Builtin.Range.rangeSize 0 (n : Int) 1 = (n : Int) := by
  unfold Builtin.Range.rangeSize
  by_cases h0 : (0 : Int) < n
  · simp only [gt_iff_lt, if_true, h0, Int.zero_lt_one]; omega
  · simp only [gt_iff_lt, if_true, h0, Int.zero_lt_one, if_false]; omega
theorem range_small0 {n : Nat} (hn : n ≤ 1000) : Builtin.Range.small 0 (n : Int) 1 = true := by
  have f : ∀ z : Int, 0 ≤ z → z ≤ 1000 → Builtin.Range.rangeFitsLong z = true := fun z h1 h2 => by
    unfold Builtin.Range.rangeFitsLong
    simp
    omega
  unfold Builtin.Range.small
  rw [range_size0, f 0 (by omega) (by omega), f n (by omega) (by omega), f 1 (by omega) (by omega), if_pos (by omega), f ((n : Int) + (1 - 1)) (by omega) (by omega)]
  simp
theorem src_range {elt : PySem.Expr} {x : Str} {scope : Scope} {cl : List (Str × Addr)} {Fin : Shared → List Value → Led → Prop} {r : Addr} {n : Nat} {t u v₀ : Tok} {news : Led} (R : Nat → Value → Prop)
    (hh : A.handled = none) (F : Fr h₀ L s.heap m) (N : News h₀ L s.heap news) (hr : IsRange s.heap r 0 (n : Int) 1 t u v₀) (hn : n ≤ 1000)
    (fin : ∀ g ys, ys.length = n → (∀ (i : Nat) (y : Value), ys[i]? = some y → R i y) → Fin { s with heap := g } ys news)
    (turn : ∀ (i : Nat) (ti : Tok) I oI C oC D ys m₂ h tk (E' Q' : Value → Shared → Prop), i < n → LCg.NsObj oC m₂ → m₂ x = some (.int (i : Int) ti) → Fr h₀ L h m → News h₀ L h ((I, oI) :: (C, oC) :: (D, LCg.lst ys) :: news) →
      (∀ y h' tk', R i y → Fr h₀ L h' m → News h₀ L h' ((I, oI) :: (C, oC) :: (D, LCg.lst ys) :: news) → Q' y { s with heap := h', toks := tk' }) →
      wpAny (model prog w) A (eval elt (compEnvC scope cl C env)) Q' E' { s with heap := h, toks := tk }) :
    LCg.CompSrc prog w A h₀ L m env elt x scope cl Fin (.ref r) s := by
  refine LCg.CompSrc.range hh F N hr (range_small0 hn) (range_size0 n) (Nat.le_trans hn (by decide)) fun g => ?_
  refine comp_same R trivial (fin g) ?_
  rintro i v I oI C oC D ys m₂ h tk E' Q' hi ⟨ti, rfl⟩ hC hx F' N' hq
  rw [Int.zero_add] at hx
  exact turn i ti I oI C oC D ys m₂ h tk E' Q' hi hC hx F' N' hq
theorem src_test {ct elt : PySem.Expr} {x : Str} {scope : Scope} {cl : List (Str × Addr)} {Fin : Shared → List Value → Led → Prop} {ax : Addr} {vs : List Value} {k : Nat} {news : Led} (q : Nat → Bool) (f : Nat → Value)
    (hh : A.handled = none) (F : Fr h₀ L s.heap m) (N : News h₀ L s.heap news) (hm : (ax, W.listOf vs.toArray k) ∈ news) (hsz : vs.length ≤ 1000)
    (fin : ∀ g, Fin { s with heap := g } (((List.range vs.length).filter q).map f) news)
    (turn : ∀ i v I oI C oC D ys m₂ h tk (E' : Value → Shared → Prop) (Q' : Bool → Shared → Prop), vs[i]? = some v → LCg.NsObj oC m₂ → m₂ x = some v → Fr h₀ L h m → News h₀ L h ((I, oI) :: (C, oC) :: (D, LCg.lst ys) :: news) →
      (∀ h' tk', Fr h₀ L h' m → News h₀ L h' ((I, oI) :: (C, oC) :: (D, LCg.lst ys) :: news) → Q' (q i) { s with heap := h', toks := tk' }) →
      wpAny (model prog w) A (isTrue ct (compEnvC scope cl C env) (eval ct (compEnvC scope cl C env))) Q' E' { s with heap := h, toks := tk })
    (item : ∀ i v I oI C oC D ys m₂ h tk (E' Q' : Value → Shared → Prop), vs[i]? = some v → q i = true → LCg.NsObj oC m₂ → m₂ x = some v → Fr h₀ L h m → News h₀ L h ((I, oI) :: (C, oC) :: (D, LCg.lst ys) :: news) →
      (∀ h' tk', Fr h₀ L h' m → News h₀ L h' ((I, oI) :: (C, oC) :: (D, LCg.lst ys) :: news) → Q' (f i) { s with heap := h', toks := tk' }) →
      wpAny (model prog w) A (eval elt (compEnvC scope cl C env)) Q' E' { s with heap := h, toks := tk }) :
    LCt.CompSrcT prog w A h₀ L m env ct elt x scope cl Fin (.ref ax) s := by
  refine LCt.CompSrcT.ledger hh F N hm (by rw [List.size_toArray]; exact Nat.le_trans hsz (by decide)) fun g => ?_
  rw [List.size_toArray]
  refine comp_test q f (.inr ⟨_, hm, rfl, _, rfl⟩) (fin g) ?_ ?_
  · intro i v I oI C oC D ys m₂ h tk E' Q' hi hv hC hx F' N' hq
    exact turn i v I oI C oC D ys m₂ h tk E' Q' (by simpa using hv) hC hx F' N' hq
  · intro i v I oI C oC D ys m₂ h tk E' Q' hi hv hqi hC hx F' N' hq
    exact item i v I oI C oC D ys m₂ h tk E' Q' (by simpa using hv) hqi hC hx F' N' hq
end
/-- a list that is told item by item -/
theorem list_told {α : Type} {ys : List Value} {ts : List α} {f : α → Value} (h1 : ys.length = ts.length) (h2 : ∀ (i : Nat) (y : Value), ys[i]? = some y → ∃ t, ts[i]? = some t ∧ y = f t) : ys = ts.map f := by
  apply List.ext_getElem?
  intro i
  rw [List.getElem?_map]
  by_cases hi : i < ys.length
  · rw [List.getElem?_eq_getElem hi]
    obtain ⟨t, ht, e⟩ := h2 i _ (List.getElem?_eq_getElem hi)
    rw [ht, e]; rfl
  · rw [List.getElem?_eq_none (by omega), List.getElem?_eq_none (by omega)]; rfl
theorem strs_are {P : Params} : ∀ ts : List (Tk P), StrsAre (ts.map fun t => Value.str t.val t.vt) (ts.map fun t => t.val)
  | [] => .nil
  | t :: r => .cons _ _ (strs_are r)
theorem mem_foc {h₀ h : Heap} {L c : Addr} {o : Obj} {l : Led} {q : Addr × Obj} (N : News h₀ L h l) (hc : (c, o) ∈ l) (hq : q ∈ l) (hne : q.2.data ≠ o.data) : q ∈ offs l [c] :=
  mem_offs hq fun e => hne (by rw [news_uniq N hc hq (List.mem_singleton.mp e)])
theorem cell_ne {o : Obj} {v : Option Value} (h : o.data = .cell v) {o' : Obj} (h' : ∀ v, o'.data ≠ .cell v) : o'.data ≠ o.data := by rw [h]; exact h' v
theorem tk_data {P : Params} {t : Tk P} {p n : Value} {q : Addr × Obj} (h : q ∈ t.led p n) : ∀ v, q.2.data ≠ .cell v := by
  simp only [Tk.led, List.mem_cons, List.not_mem_nil, or_false] at h
  rcases h with rfl | rfl | rfl | rfl <;> (intro v e; cases e)
theorem ln_data {P : Params} {x : Ln P} {q : Addr × Obj} (h : q ∈ x.led) : ∀ v, q.2.data ≠ .cell v := by
  simp only [Ln.led, List.mem_cons, List.not_mem_nil, or_false] at h
  rcases h with rfl | rfl <;> (intro v e; cases e)
theorem bools_map : ∀ bs : List Bool, LSm.BoolsAre (bs.map Value.bool) bs
  | [] => .nil
  | b :: r => .cons _ (bools_map r)
theorem bools_told {ys : List Value} {n : Nat} {b : Nat → Bool} (h1 : ys.length = n) (h2 : ∀ (i : Nat) (y : Value), ys[i]? = some y → y = .bool (b i)) : ys = ((List.range n).map b).map Value.bool := by
  apply List.ext_getElem?
  intro i
  rw [List.getElem?_map, List.getElem?_map]
  by_cases hi : i < ys.length
  · rw [List.getElem?_eq_getElem hi, h2 i _ (List.getElem?_eq_getElem hi), List.getElem?_range (by omega)]; rfl
  · rw [List.getElem?_eq_none (by omega), List.getElem?_eq_none (by simp; omega)]; rfl
theorem dropL_eq (vs : List Value) : kms_pick vs none (some (-1)) = vs.dropLast := by
  unfold kms_pick
  rw [show kms_lo none vs.length = 0 from rfl, List.drop_zero, Nat.sub_zero, List.dropLast_eq_take]
  congr 1
theorem sliceL_mem {prog : Program} {w : World} {A : Around} {E : Value → Shared → Prop} {s : Shared} {h₀ : Heap} {L : Addr} {m : Str → Option Value} {news : Led} {Q : Value → Shared → Prop} {value slice : PySem.Expr} {l : Addr} {vs : List Value} {k n : Nat} {u : Tok} (F : Fr h₀ L s.heap m) (N : News h₀ L s.heap news) (hl : (l, W.listOf vs.toArray k) ∈ news) (hn : vs.length = n) (hz : n ≤ 1000)
    (h : ∀ D h', Fr h₀ L h' m → News h₀ L h' ((D, W.listOf vs.dropLast.toArray 0) :: news) → (∀ p ∈ news, p.1 < D) → Q (.ref D) { s with heap := h' })
    (hs : subscripted slice false (.ref l) (.ref s.heap.objs.size) = operate [.ref s.heap.objs.size, .ref l] (getItem (.ref l) (.ref s.heap.objs.size))) (ht : ∀ r, letTemporaryGo value (.ref l) r = pure ()) :
    wpAny (model prog w) A (subscriptTail value slice (.ref l) (.ref s.heap.objs.size)) Q E { s with heap := s.heap.push { cls := .type "slice", data := .fields #[.none, .int (-1) u, .none] } } :=
  kms_slice_lit (zs := vs.dropLast) F N (isl_mem N hl) IsPart.none (IsPart.int _ _) (dropL_eq vs) h hs ht (by rw [List.size_toArray, hn]; exact Nat.le_trans hz (by decide))
theorem lst_eq {ys : List Value} {n : Nat} (h : ys.length = n) : LCg.lst ys = W.listOf ys.toArray n := by subst h; rfl
theorem ne_of_obj {h₀ h : Heap} {L a b : Addr} {o o' : Obj} {l : Led} (N : News h₀ L h l) (h1 : (a, o) ∈ l) (h2 : (b, o') ∈ l) (hc : o.data ≠ o'.data) : a ≠ b := by
  rintro rfl
  have := news_uniq N h2 h1 rfl
  exact hc (congrArg (fun q : Addr × Obj => q.2.data) this)
end Mine
end
section
open PySem PySem.W PyProof.Rows PySem.Spec PySem.Calls
namespace Mine
section
variable {prog : Program} {w : World} {A : Around} {E : Value → Shared → Prop} {s : Shared} {h₀ : Heap} {L : Addr} {m : Str → Option Value} {env : Env}
/-- the source of a comprehension whose elements may make generators: G tells what of the state stands -/
def GSrc (prog : Program) (w : World) (A : Around) (h₀ : Heap) (L : Addr) (m : Str → Option Value) (env : Env) (elt : PySem.Expr) (x y : Str) (scope : Scope) (cl : List (Str × Addr)) (Q : Flow → Shared → Prop) (xv : Value) (s₁ : Shared) : Prop :=
  ∃ (ax : Addr) (vs : List Value) (k : Nat) (news : Led) (Inv : Nat → List Value → Led → Prop) (G : Shared → Prop), xv = .ref ax ∧ A.handled = none ∧ Fr h₀ L s₁.heap m ∧ News h₀ L s₁.heap news ∧ (ax, W.listOf vs.toArray k) ∈ news ∧ vs.length ≤ 1000 ∧ G s₁ ∧ (∀ s h tk, G s → G { s with heap := h, toks := tk }) ∧ Inv 0 [] news ∧
    (∀ i v ys nx I oI C oC D m₂ s' (E' Q' : Value → Shared → Prop), vs[i]? = some v → Inv i ys nx → G s' → LCg.NsObj oC m₂ → m₂ x = some v → Fr h₀ L s'.heap m → News h₀ L s'.heap ((I, oI) :: (C, oC) :: (D, LCg.lst ys) :: nx) → LCg.Off3 I C D nx → ((@Ne Nat I C) ∧ (@Ne Nat I D) ∧ (@Ne Nat C D)) → (ax, W.listOf vs.toArray k) ∈ nx →
      (∀ y s'' nx', G s'' → Fr h₀ L s''.heap m → News h₀ L s''.heap ((I, oI) :: (C, oC) :: (D, LCg.lst ys) :: nx') → LCg.Off3 I C D nx' → (ax, W.listOf vs.toArray k) ∈ nx' → Inv (i + 1) (ys ++ [y]) nx' → Q' y s'') →
      wpAny (model prog w) A (eval elt (compEnvC scope cl C env)) Q' E' s') ∧
    (∀ D ys nx s', Inv vs.length ys nx → G s' → Fr h₀ L s'.heap (fun z => if z = y then some (.ref D) else m z) → News h₀ L s'.heap ((D, LCg.lst ys) :: nx) → LCg.Off1 D nx → Q .next s')
theorem comp_gen {elt iter : PySem.Expr} {x y : Str} {px py : Pos} {scope : Scope} {cl : List (Str × Addr)} {pos spos : Pos} {Q : Flow → Shared → Prop} (F₀ : Fr h₀ L s.heap m) (hLe : env.locals = L)
    (hsw : swapsWith (.ListComp elt [⟨.Name x px, iter, [], 0⟩] scope pos) (some (.Name y py)) spos.line env = pure true)
    (hclos : closureFor scope env = pure cl) (hcell : ∀ z ∈ scope.names, z.2 ≠ .cell) (hkind : scope.kind = .function)
    (hnames : ∀ z ∈ scope.names, z.2 = .local → scope.names.lookup z.1 = some .local) (hx : scope.names.lookup x = some .local)
    (hy : env.kindOf y = some .local) (hp : (env.scope.kind == .class || (env.scope.kind == .module && env.locals != env.globals)) = false)
    (h : wpAny (model prog w) A (eval iter env) (GSrc prog w A h₀ L m env elt x y scope cl Q) E s)
    (hs : ∀ x, foldedSetIterable iter env x = pure x := by intro _; rfl) :
    wpAny (model prog w) A (exec (.Assign [.Name y py] (.ListComp elt [⟨.Name x px, iter, [], 0⟩] scope pos) spos) env) Q E s := by
  subst hLe
  rw [exec_Assign_Name_used _ _ _ _ hsw]
  refine wpAny_bind (wpAny_standAt (wpAny_bind ?_))
  show wpAny _ A (do let _ ← comprehension (.ListComp elt [⟨.Name x px, iter, [], 0⟩] scope pos) scope env _ (newList []) false (eval iter env) (some (assign (.Name y py) env))) _ _ s
  refine wpAny_bind (wpAny_mono (wpAny_comprehension_free (use := some (assign (.Name y py) env)) (Q := fun _ s' => Q .next s') rfl hs hclos hkind hnames
    (wpAny_mono h (fun xv s₁ h₁ => ?_) fun _ _ e => e)) (fun _ s' hq => wpAny_pure (wpAny_pure hq)) fun _ _ e => e)
  obtain ⟨ax, vs, k, news, Inv, G, rfl, hh, F, N, hm, hsz, hG1, hG, hI0, turn, fin⟩ := h₁
  have hl : s₁.heap.IsList ax vs.toArray := isl_mem N hm
  have hlt : ax < s₁.heap.objs.size := by obtain ⟨_, e, _⟩ := hl; exact Heap.lt_size e
  have hax0 : h₀.get? ax = none := (N _ hm).2.2
  have haxL : ax ≠ env.locals := (N _ hm).2.1
  have hsz1 : vs.length ≤ sizeLine := Nat.le_trans hsz (by decide)
  refine wpAny_pyIter_list hl ?_
  -- the iterator, the list, the block's names
  generalize hI : s₁.heap.objs.size = I
  have up : ∀ b o, s₁.heap.get? b = some o → (s₁.heap.push { cls := .type "list_iterator", data := .fields #[.ref ax, .int 0 0] }).get? b = some o := fun b o e => Heap.get?_push_of_some _ e
  have hit : (s₁.heap.push { cls := .type "list_iterator", data := .fields #[.ref ax, .int 0 0] }).get? I = some { cls := .type "list_iterator", data := .fields #[.ref ax, .int 0 0] } := hI ▸ Heap.get?_push_size _ rfl
  have hszI : (s₁.heap.push { cls := .type "list_iterator", data := .fields #[.ref ax, .int 0 0] }).objs.size = I + 1 := by rw [Heap.size_push, hI]
  have hI0h : h₀.get? I = none := hI ▸ next_is_new F
  have hIL : env.locals ≠ I := hI ▸ Nat.ne_of_lt F.ns.lt
  have hIn : ∀ p ∈ news, p.1 ≠ I := fun p hp => hI ▸ Nat.ne_of_lt (Heap.lt_size (N p hp).1)
  have haxI : ax ≠ I := hIn _ hm
  generalize hH : s₁.heap.push { cls := .type "list_iterator", data := .fields #[.ref ax, .int 0 0] } = H1 at up hit hszI
  refine wpAny_newObj_type (wpAny_newFunctionEnv hcell (by intro y hy; simp at hy) (fun h₁ hns₁ hsb₁ => ?_) hkind)
  dsimp only at hns₁ hsb₁ ⊢
  generalize hH2 : H1.push { cls := .type "list", dict := none, data := .seq ([] : List Value).toArray } = H2 at hns₁ hsb₁ ⊢
  have hC : H2.objs.size = I + 2 := by rw [← hH2, Heap.size_push, hszI]
  generalize hDD : H1.objs.size = D at *
  generalize hCC : H2.objs.size = C at *
  have hDC : D ≠ C := by rw [hC, hszI]; exact Nat.ne_of_lt (Nat.lt_succ_self _)
  have below : ∀ b, b ≤ I → b ≠ C ∧ b ≠ D := fun b hb => ⟨by rw [hC]; exact Nat.ne_of_lt (Nat.lt_of_le_of_lt hb (Nat.lt_succ_of_lt (Nat.lt_succ_self _))), by rw [hszI]; exact Nat.ne_of_lt (Nat.lt_succ_of_le hb)⟩
  have hD2 : H2.get? D = some (LCg.lst []) := by
    rw [← hH2]
    have := Heap.get?_push_size H1 (o := ({ cls := .type "list", dict := none, data := .seq ([] : List Value).toArray } : Obj)) rfl
    rw [hDD] at this
    exact this
  have old : ∀ b o, H1.get? b = some o → h₁.get? b = some o := fun b o e => by
    have hb : b < I + 1 := by have := Heap.lt_size e; rw [hDD, hszI] at this; exact this
    exact hsb₁.extBut b o (below b (Nat.le_of_lt_succ hb)).1 (Heap.get?_push_of_some _ (hH2 ▸ Heap.get?_push_of_some _ e))
  have hacc : h₁.get? D = some (LCg.lst []) := hsb₁.extBut _ _ hDC (Heap.get?_push_of_some _ hD2)
  have fresh : ∀ a, I < a → h₀.get? a = none := fun a ha => by
    cases e : h₀.get? a with
    | none => rfl
    | some o' =>
      have h2 := Heap.lt_size (up _ _ (F.keep a o' e))
      rw [hDD, hszI] at h2
      exact absurd ha (Nat.not_lt.mpr (Nat.le_of_lt_succ h2))
  have hD₀ : h₀.get? D = none := fresh D (by rw [hszI]; exact Nat.lt_succ_self _)
  have hC₀ : h₀.get? C = none := fresh C (by rw [hC]; exact Nat.lt_succ_of_lt (Nat.lt_succ_self _))
  have hLI : env.locals ≤ I := by
    have := Heap.lt_size (up _ _ (F.ns.choose_spec.choose_spec.choose_spec.1))
    rw [hDD, hszI] at this
    exact Nat.le_of_lt_succ this
  have hDL : D ≠ env.locals := Ne.symm (below _ hLI).2
  have hCL : C ≠ env.locals := Ne.symm (below _ hLI).1
  have hCI : I ≠ C := (below I (Nat.le_refl _)).1
  have hDI : I ≠ D := (below I (Nat.le_refl _)).2
  have hle : ∀ p ∈ news, p.1 ≤ I := fun p hp => by
    have := Heap.lt_size (up _ _ (N p hp).1)
    rw [hDD, hszI] at this
    exact Nat.le_of_lt_succ this
  have off₀ : LCg.Off3 I C D news := LCg.Off3.of fun p hp => ⟨hIn p hp, (below _ (hle p hp)).1, (below _ (hle p hp)).2⟩
  have Wk := Walks.list (prog := prog) (w := w) hh I ax haxI vs.toArray
  rw [List.size_toArray] at Wk
  have loop : ∀ s₃ : Shared, s₃ = { s₁ with heap := h₁, toks := s₁.toks + ([] : List (Str × Value)).length } →
      codeAny (model prog w) A (.compLoop (.ListComp elt [⟨.Name x px, iter, [], 0⟩] scope pos) 0 (.ref I) (.ref D) (compEnvC scope cl C env))
        (compPost (model prog w) A E (some (assign (.Name y py) env)) (fun _ s' => Q .next s') (.ref D) C) s₃ := by
    rintro s₃ rfl
    refine codeAny_compLoop_tests
      (fun k' s' => ∃ i ys m' nx, i ≤ vs.length ∧ k' = vs.length + 1 - i ∧ ys.length = i ∧ (s'.heap.IsListIter I ax i ∧ s'.heap.IsList ax vs.toArray) ∧ Fr h₀ env.locals s'.heap m ∧ s'.heap.Ns C m' ∧ News h₀ env.locals s'.heap ((D, LCg.lst ys) :: nx) ∧ LCg.Off3 I C D nx ∧ (ax, W.listOf vs.toArray k) ∈ nx ∧ Inv i ys nx ∧ G s') ?_ (vs.length + 1)
      ⟨0, [], _, news, Nat.zero_le _, rfl, rfl, ⟨⟨_, old _ _ hit, rfl, rfl⟩, hl.at fun o e => old _ _ (up _ _ e)⟩, F.keeps fun b o e => old _ _ (up _ _ e), hns₁, fun p hp => ?_, off₀, hm, hI0, hG _ _ _ hG1⟩
    · rintro k' s' ⟨i, ys, m', nx, hi, rfl, hyl, hst', F', hn', N', off', hm', hI', hG'⟩
      by_cases hlt' : i < vs.length
      · refine Wk.item i _ _ _ hlt' hst' fun v h₂ tk₂ hPv hst₂ hk₂ => ?_
        refine wpAny_assign_Name (wpAny_storeName_local (lookup_relabel_local hx) (hn'.at' fun o e => hk₂ _ o (by simpa using Ne.symm hCI) e) (fun h₃ hn₃ hs₃ => ?_) (by simp [compEnvC, relabel, hkind]))
        refine wpAny_tests_nil ?_
        simp only [if_true]
        have off3 := off'.mem
        have k3 : ∀ b o, b ≠ C → h₂.get? b = some o → h₃.get? b = some o := fun b o hb e => hs₃.extBut b o hb e
        have hst₃ : h₃.IsListIter I ax (i + 1) ∧ h₃.IsList ax vs.toArray := ⟨hst₂.1.at fun o e => k3 _ _ hCI e, hst₂.2.at fun o e => k3 _ _ (off3 _ hm').2.1 e⟩
        obtain ⟨oI, heI, hIr⟩ := id hst₃.1
        obtain ⟨oC, heC, hoC⟩ := LCg.ns_obj hn₃
        have F₃ : Fr h₀ env.locals h₃ m := (LCg.fr_but F' hk₂ hIL hI0h).change hs₃ hCL hC₀
        have N₂ : News h₀ env.locals h₂ ((D, LCg.lst ys) :: nx) := LCg.news_but N' hk₂ fun p hp => by
          rcases List.mem_cons.mp hp with rfl | hp
          · exact Ne.symm hDI
          · exact (off3 p hp).1
        have N₃ : News h₀ env.locals h₃ ((I, oI) :: (C, oC) :: (D, LCg.lst ys) :: nx) := fun p hp => by
          rcases List.mem_cons.mp hp with rfl | hp
          · exact ⟨heI, Ne.symm hIL, hI0h⟩
          · rcases List.mem_cons.mp hp with rfl | hp
            · exact ⟨heC, hCL, hC₀⟩
            · have z := N₂ p hp
              refine ⟨k3 _ _ ?_ z.1, z.2⟩
              rcases List.mem_cons.mp hp with rfl | hp
              · exact hDC
              · exact (off3 p hp).2.1
        refine turn i v ys nx I oI C oC D _ _ _ _ (by simpa using hPv) hI' (hG _ _ _ (hG _ _ _ hG')) hoC (by simp) F₃ N₃ off' ⟨hCI, hDI, Ne.symm hDC⟩ hm' fun z s₄ nx₄ hG₄ F₄ N₄ off₄ hm₄ hI₄ => ?_
        have zI := (N₄ (I, oI) List.mem_cons_self).1
        have zC := (N₄ (C, oC) (List.mem_cons_of_mem _ List.mem_cons_self)).1
        have zD := (N₄ (D, LCg.lst ys) (List.mem_cons_of_mem _ (List.mem_cons_of_mem _ List.mem_cons_self))).1
        have N₄' : News h₀ env.locals s₄.heap nx₄ := fun p hp => N₄ p (List.mem_cons_of_mem _ (List.mem_cons_of_mem _ (List.mem_cons_of_mem _ hp)))
        refine append_at (hsz := by show ys.toArray.size ≤ sizeLine; rw [List.size_toArray, hyl]; exact Nat.le_trans hi hsz1) zD fun h₅ hs₅ hD₅ => ?_
        have off4 := off₄.mem
        refine ⟨vs.length + 1 - (i + 1), by omega, i + 1, ys ++ [z], _, nx₄, hlt', rfl, by rw [List.length_append, List.length_singleton, hyl], ⟨⟨oI, hs₅.extBut _ _ hDI zI, hIr⟩, (isl_mem N₄' hm₄).at fun o e => hs₅.extBut _ _ (off4 _ hm₄).2.2 e⟩, F₄.change hs₅ hDL hD₀, (hoC.ns zC).sameBut hs₅ (Ne.symm hDC), fun p hp => ?_, off₄, hm₄, hI₄, hG s₄ h₅ s₄.toks hG₄⟩
        rcases List.mem_cons.mp hp with rfl | hp
        · exact ⟨hD₅.trans (congrArg some (LCg.lst_snoc ys z)), hDL, hD₀⟩
        · exact ⟨hs₅.extBut _ _ (off4 p hp).2.2 (N₄' p hp).1, (N₄' p hp).2⟩
      · obtain rfl : i = vs.length := Nat.le_antisymm hi (Nat.not_lt.mp hlt')
        refine Wk.done _ _ _ hst' fun h₂ tk₂ hk₂ => ?_
        have off3 := off'.mem
        have F₂ : Fr h₀ env.locals h₂ m := LCg.fr_but F' hk₂ hIL hI0h
        have N₂ : News h₀ env.locals h₂ ((D, LCg.lst ys) :: nx) := LCg.news_but N' hk₂ fun p hp => by
          rcases List.mem_cons.mp hp with rfl | hp
          · exact Ne.symm hDI
          · exact (off3 p hp).1
        have hn₂ : h₂.Ns C m' := hn'.at' fun o e => hk₂ _ o (by simpa using Ne.symm hCI) e
        show wpAny _ A (assign (.Name y py) env (.ref D)) _ _ _
        refine wpAny_assign_Name (wpAny_storeName_local hy F₂.ns (fun h₃ hn₃ hs₃ => ?_) hp)
        have hL₀ : h₀.get? env.locals = none := Heap.get?_none_of_le F₂.above
        have F₃ : Fr h₀ env.locals h₃ (fun z => if z = y then some (.ref D) else m z) := ⟨hn₃, fun b o e => hs₃.extBut b o (fun q => by rw [q, hL₀] at e; cases e) (F₂.keep b o e), F₂.above⟩
        refine ⟨m', hn₂.sameBut hs₃ hCL, fun h'' hs'' => fin D ys nx _ hI' (hG _ _ _ (hG _ _ _ (hG _ _ _ hG'))) (F₃.change hs'' hCL hC₀) (fun p hp => ?_) off'.one⟩
        have z : h₃.get? p.1 = some p.2 := hs₃.extBut _ _ (N₂ p hp).2.1 (N₂ p hp).1
        refine ⟨hs''.extBut _ _ ?_ z, (N₂ p hp).2⟩
        rcases List.mem_cons.mp hp with rfl | hp
        · exact hDC
        · exact (off3 p hp).2.1
    · rcases List.mem_cons.mp hp with rfl | hp
      · exact ⟨hacc, hDL, hD₀⟩
      · exact ⟨old _ _ (up _ _ (N p hp).1), (N p hp).2⟩
  refine codeAny_compStart_list (loop _ rfl) (Wk.self 0 _ _ _ ?_ (loop _ rfl))
  exact ⟨⟨_, old _ _ hit, rfl, rfl⟩, hl.at fun o e => old _ _ (up _ _ e)⟩
end
end Mine
end
section
open PySem PySem.W PyProof.Rows PySem.Spec PySem.Calls
namespace Mine
theorem partsU_length (q : Nat → Bool) : ∀ n, (partsU q n).length = 1 + ((List.range n).filter q).length
  | 0 => by simp [partsU]
  | n + 1 => by
    have h := partsU_length q n
    have hne := partsU_ne q n
    rw [List.range_succ, List.filter_append]
    unfold partsU
    cases hq : q n <;> simp [hq] <;> omega
theorem semi_any {P : Params} (ts : List (Tk P)) : (ts.any fun t => t.val == Str.ofString ";") = ((List.range ts.length).any (semiAt ts)) := by
  rw [Bool.eq_iff_iff, List.any_eq_true, List.any_eq_true]
  constructor
  · rintro ⟨t, ht, h⟩
    obtain ⟨i, hi, rfl⟩ := List.getElem_of_mem ht
    exact ⟨i, List.mem_range.mpr hi, by simp [semiAt, hi, h]⟩
  · rintro ⟨i, hi, h⟩
    have hi := List.mem_range.mp hi
    refine ⟨ts[i], List.getElem_mem hi, ?_⟩
    simpa [semiAt, hi] using h
theorem parts_one {P : Params} {ts : List (Tk P)} (h : (ts.any fun t => t.val == Str.ofString ";") = false) : (partsU (semiAt ts) ts.length).length = 1 := by
  rw [semi_any, List.any_eq_false] at h
  rw [partsU_length, List.filter_eq_nil_iff.mpr (fun i hi => h i hi)]
  rfl
theorem parts_more {P : Params} {ts : List (Tk P)} (h : (ts.any fun t => t.val == Str.ofString ";") = true) : (partsU (semiAt ts) ts.length).length ≠ 1 := by
  rw [semi_any, List.any_eq_true] at h
  obtain ⟨i, hi, h⟩ := h
  rw [partsU_length]
  have : i ∈ (List.range ts.length).filter (semiAt ts) := List.mem_filter.mpr ⟨hi, h⟩
  have := List.length_pos_of_mem this
  omega
theorem due_cases (q : Nat → Bool) (n : Nat) : (dueU q n = (partsU q n).dropLast ∧ (partsU q n).getLast? = some []) ∨ (dueU q n = partsU q n ∧ ∃ a r, (partsU q n).getLast? = some (a :: r)) := by
  obtain ⟨c, hc⟩ : ∃ c, (partsU q n).getLast? = some c := ⟨_, List.getLast?_eq_some_getLast (fun e => by have := partsU_ne q n; rw [e] at this; simp at this)⟩
  cases c with
  | nil => exact .inl ⟨dueU_nil hc rfl, hc⟩
  | cons a r => exact .inr ⟨dueU_cons hc rfl, a, r, hc⟩
theorem drop_due {q : Nat → Bool} {n : Nat} : ∀ ns ∈ (partsU q n).dropLast, ns ∈ dueU q n := fun ns h => by
  rcases due_cases q n with ⟨e, _⟩ | ⟨e, _⟩
  · rw [e]; exact h
  · rw [e]; exact (List.dropLast_sublist _).subset h
theorem due_empty {q : Nat → Bool} {n : Nat} (h : ∃ ns ∈ dueU q n, ns = []) : ((partsU q n).dropLast.any fun ns => ns.length == 0) = true := by
  obtain ⟨ns, hm, rfl⟩ := h
  rw [List.any_eq_true]
  refine ⟨[], ?_, rfl⟩
  rcases due_cases q n with ⟨e, _⟩ | ⟨e, a, r, hl⟩
  · rw [← e]; exact hm
  · rw [e, dl_last hl] at hm
    rcases List.mem_append.mp hm with h | h
    · exact h
    · exact absurd (List.mem_singleton.mp h) (by simp)
theorem due_full {q : Nat → Bool} {n : Nat} (h : ∀ ns ∈ dueU q n, ns ≠ []) : ((partsU q n).dropLast.any fun ns => ns.length == 0) = false := by
  rw [List.any_eq_false]
  intro ns hns
  have := h ns (drop_due ns hns)
  cases ns with
  | nil => exact absurd rfl this
  | cons a r => simp
theorem due_take (q : Nat → Bool) (n : Nat) : dueU q n = (partsU q n).take (dueU q n).length := by
  rcases due_cases q n with ⟨e, _⟩ | ⟨e, _⟩
  · rw [e, List.length_dropLast, List.dropLast_eq_take]
  · rw [e, List.take_length]
/-- the places that are kept -/
theorem due_filter {q : Nat → Bool} {n : Nat} (h : ∀ ns ∈ dueU q n, ns ≠ []) {as : List Addr} (hl : as.length = (partsU q n).length) :
    (((List.range as.length).filter fun i => decide (0 < (((partsU q n)[i]?.getD []).length : Int))).map fun i => Value.ref (as[i]?.getD 0)) = (as.take (dueU q n).length).map Value.ref := by
  have hd : ∀ i, i < (dueU q n).length → (partsU q n)[i]? = (dueU q n)[i]? := fun i hi => by
    rw [due_take q n, List.getElem?_take, if_pos hi]
  have hle : (dueU q n).length ≤ as.length := by
    rw [due_take q n, List.length_take, hl]; omega
  have hlast : ∀ i, (dueU q n).length ≤ i → i < as.length → (partsU q n)[i]? = some [] := fun i h1 h2 => by
    rcases due_cases q n with ⟨e, hg⟩ | ⟨e, _⟩
    · rw [e, List.length_dropLast] at h1
      rw [List.getLast?_eq_getElem?] at hg
      have : i = (partsU q n).length - 1 := by omega
      rw [this]; exact hg
    · rw [e] at h1; omega
  have e1 : (List.range as.length).filter (fun i => decide (0 < (((partsU q n)[i]?.getD []).length : Int))) = List.range (dueU q n).length := by
    obtain ⟨k, hk⟩ : ∃ k, as.length = (dueU q n).length + k := ⟨as.length - (dueU q n).length, by omega⟩
    rw [hk, List.range_add, List.filter_append]
    have a1 : (List.range (dueU q n).length).filter (fun i => decide (0 < (((partsU q n)[i]?.getD []).length : Int))) = List.range (dueU q n).length := List.filter_eq_self.mpr fun i hi => by
      have hi := List.mem_range.mp hi
      rw [hd i hi, List.getElem?_eq_getElem hi]
      have := h _ (List.getElem_mem hi)
      simp only [Option.getD_some, decide_eq_true_eq]
      have := List.length_pos_iff.mpr this
      omega
    have a2 : ((List.range k).map ((dueU q n).length + ·)).filter (fun i => decide (0 < (((partsU q n)[i]?.getD []).length : Int))) = [] := List.filter_eq_nil_iff.mpr fun i hi => by
      obtain ⟨j, hj, rfl⟩ := List.mem_map.mp hi
      have hj := List.mem_range.mp hj
      rw [hlast _ (by omega) (by omega)]
      simp
    rw [a1, a2, List.append_nil]
  rw [e1]
  apply List.ext_getElem?
  intro i
  rw [List.getElem?_map, List.getElem?_map, List.getElem?_take]
  by_cases hi : i < (dueU q n).length
  · rw [List.getElem?_range hi, if_pos hi, List.getElem?_eq_getElem (by omega)]
    simp [List.getElem?_eq_getElem (show i < as.length by omega)]
  · rw [if_neg hi, List.getElem?_eq_none (by simp; omega)]; rfl
theorem partsU_each (q : Nat → Bool) : ∀ n, ∀ ns ∈ partsU q n, ns.length ≤ n
  | 0, ns, h => by simp [partsU] at h; subst h; simp
  | n + 1, ns, h => by
    have ih := partsU_each q n
    unfold partsU at h
    split at h
    · rcases List.mem_append.mp h with h | h
      · have := ih ns h; omega
      · rw [List.mem_singleton.mp h]; simp
    · rcases List.mem_append.mp h with h | h
      · have := ih ns ((List.dropLast_sublist _).subset h); omega
      · rw [List.mem_singleton.mp h]
        cases hg : (partsU q n).getLast? with
        | none => simp
        | some l => have := ih l (List.mem_of_getLast? hg); simp; omega
theorem any_parts {q : Nat → Bool} {n k : Nat} (hk : k = (partsU q n).length - 1) : (((List.range k).map fun i => ((((partsU q n)[i]?.getD []).length : Int) == 0)).any id) = ((partsU q n).dropLast.any fun ns => ns.length == 0) := by
  rw [Bool.eq_iff_iff, List.any_eq_true, List.any_eq_true]
  constructor
  · rintro ⟨b, hb, h⟩
    obtain ⟨i, hi, rfl⟩ := List.mem_map.mp hb
    have hi := List.mem_range.mp hi
    have hl : i < (partsU q n).dropLast.length := by rw [List.length_dropLast]; omega
    refine ⟨(partsU q n).dropLast[i], List.getElem_mem hl, ?_⟩
    rw [List.getElem_dropLast]
    rw [List.getElem?_eq_getElem (by omega)] at h
    simpa using h
  · rintro ⟨ns, hns, h⟩
    obtain ⟨i, hi, rfl⟩ := List.getElem_of_mem hns
    have hi2 := hi
    rw [List.length_dropLast] at hi2
    refine ⟨_, List.mem_map.mpr ⟨i, List.mem_range.mpr (by omega), rfl⟩, ?_⟩
    rw [List.getElem_dropLast] at h
    rw [List.getElem?_eq_getElem (by omega)]
    simpa using h
end Mine
end
section
open PySem PySem.W PyProof.Rows PySem.Spec PySem.Calls
namespace Mine
def mtsOf {P : Params} (ts : List (Tk P)) (ns : List Nat) : List (Tk P) := ns.filterMap fun n => ts[n]?
section
variable {P : Params} {ts : List (Tk P)}
theorem mts_cons {n : Nat} {r : List Nat} (h : n < ts.length) : mtsOf ts (n :: r) = ts[n] :: mtsOf ts r := by
  unfold mtsOf
  rw [List.filterMap_cons, List.getElem?_eq_getElem h]
theorem mts_len : ∀ {ns : List Nat}, (∀ n ∈ ns, n < ts.length) → (mtsOf ts ns).length = ns.length
  | [], _ => rfl
  | n :: r, h => by
    rw [mts_cons (h n (by simp)), List.length_cons, List.length_cons, mts_len fun m hm => h m (by simp [hm])]
theorem mts_get : ∀ {ns : List Nat}, (∀ n ∈ ns, n < ts.length) → ∀ (j n : Nat), ns[j]? = some n → ∃ t, ts[n]? = some t ∧ (mtsOf ts ns)[j]? = some t
  | [], _, j, n, e => by simp at e
  | m :: r, h, 0, n, e => by
    simp at e; subst e
    exact ⟨_, List.getElem?_eq_getElem (h m (by simp)), by rw [mts_cons (h m (by simp))]; rfl⟩
  | m :: r, h, j + 1, n, e => by
    obtain ⟨t, h1, h2⟩ := mts_get (ns := r) (fun m hm => h m (by simp [hm])) j n (by simpa using e)
    exact ⟨t, h1, by rw [mts_cons (h m (by simp))]; simpa using h2⟩
theorem mts_map {γ : Type} (f : Tk P → γ) (g : Nat → γ) (hg : ∀ (n : Nat) (t : Tk P), ts[n]? = some t → g n = f t) : ∀ {ns : List Nat}, (∀ n ∈ ns, n < ts.length) → ns.map g = (mtsOf ts ns).map f
  | [], _ => rfl
  | n :: r, h => by
    rw [mts_cons (h n (by simp)), List.map_cons, List.map_cons, mts_map f g hg fun m hm => h m (by simp [hm]), hg n _ (List.getElem?_eq_getElem (h n (by simp)))]
theorem mts_inv {ns : List Nat} (h : ∀ n ∈ ns, n < ts.length) {j : Nat} {t : Tk P} (e : (mtsOf ts ns)[j]? = some t) : ∃ n, ns[j]? = some n ∧ ts[n]? = some t := by
  have hj := (List.getElem?_eq_some_iff.mp e).1
  rw [mts_len h] at hj
  obtain ⟨t', h1, h2⟩ := mts_get h j ns[j] (List.getElem?_eq_getElem hj)
  rw [e] at h2
  cases h2
  exact ⟨_, List.getElem?_eq_getElem hj, h1⟩
def pvM (ts : List (Tk P)) (due : List (List Nat)) (ns : List Nat) (j : Nat) : Value := match ns[j]? with
  | some n => pvK ts due n
  | none => match (mtsOf ts ns)[j - 1]? with
    | some t => .ref t.a
    | none => .none
def nxM (ts : List (Tk P)) (due : List (List Nat)) (ns : List Nat) (j : Nat) : Value := match ns[j]? with
  | some n => nxK ts due n
  | none => .none
theorem due_el {ns : List Nat} (h : ns ∈ dueU (semiAt ts) ts.length) : ∀ n ∈ ns, n < ts.length := fun n hn => ((partsU_PP (semiAt ts) ts.length).el ns (dueU_sub ns h) n hn).1
theorem mts_tin {due : List (List Nat)} {ns : List Nat} (h : ∀ n ∈ ns, n < ts.length) {led : Led} (hT : TIn ts (pvK ts due) (nxK ts due) led) : TIn (mtsOf ts ns) (pvM ts due ns) (nxM ts due ns) led := by
  intro j t e q hq
  obtain ⟨n, h1, h2⟩ := mts_inv h e
  simp only [pvM, nxM, h1] at hq
  exact hT n t h2 q hq
theorem pvM_zero {ns : List Nat} (hm : ns ∈ dueU (semiAt ts) ts.length) (hne : ns ≠ []) : pvM ts (dueU (semiAt ts) ts.length) ns 0 = .none := by
  cases ns with
  | nil => exact absurd rfl hne
  | cons a r =>
    show pvK ts _ a = _
    unfold pvK
    rw [if_pos]
    exact List.any_eq_true.mpr ⟨_, hm, by simp⟩
theorem pvM_succ {ns : List Nat} (hm : ns ∈ dueU (semiAt ts) ts.length) (j : Nat) (t : Tk P) (e : (mtsOf ts ns)[j]? = some t) : pvM ts (dueU (semiAt ts) ts.length) ns (j + 1) = .ref t.a := by
  have hlt := due_el hm
  obtain ⟨n, h1, h2⟩ := mts_inv hlt e
  have hPP := partsU_PP (semiAt ts) ts.length
  unfold pvM
  cases h3 : ns[j + 1]? with
  | none =>
    simp only [Nat.add_sub_cancel, e]
  | some n' =>
    have hn' := hPP.next ns (dueU_sub ns hm) j n n' h1 h3
    subst hn'
    show pvK ts _ (n + 1) = _
    unfold pvK
    rw [if_neg]
    · simp [pv0, h2]
    · intro hh
      obtain ⟨ns2, hm2, he⟩ := List.any_eq_true.mp hh
      have he : ns2.head? = some (n + 1) := by simpa using he
      rcases hPP.head ns2 (dueU_sub ns2 hm2) _ he with h5 | h5
      · omega
      · have := (hPP.el ns (dueU_sub ns hm) n (List.mem_of_getElem? h1)).2
        rw [Nat.add_sub_cancel] at h5
        rw [h5] at this; cases this
theorem nxM_last {ns : List Nat} (hm : ns ∈ dueU (semiAt ts) ts.length) (j : Nat) (e : j + 1 = (mtsOf ts ns).length) : nxM ts (dueU (semiAt ts) ts.length) ns j = .none := by
  rw [mts_len (due_el hm)] at e
  unfold nxM
  rw [List.getElem?_eq_getElem (by omega)]
  show nxK ts _ ns[j] = _
  unfold nxK
  rw [if_pos]
  refine List.any_eq_true.mpr ⟨_, hm, ?_⟩
  rw [List.getLast?_eq_getElem?]
  have : ns.length - 1 = j := by omega
  simp [this]
theorem nxM_succ {ns : List Nat} (hm : ns ∈ dueU (semiAt ts) ts.length) (j : Nat) (t : Tk P) (e : (mtsOf ts ns)[j + 1]? = some t) : nxM ts (dueU (semiAt ts) ts.length) ns j = .ref t.a := by
  have hlt := due_el hm
  obtain ⟨n', h1, h2⟩ := mts_inv hlt e
  have hPP := partsU_PP (semiAt ts) ts.length
  have hj := (List.getElem?_eq_some_iff.mp h1).1
  have h3 : ns[j]? = some ns[j] := List.getElem?_eq_getElem (by omega)
  have hn' := hPP.next ns (dueU_sub ns hm) j _ n' h3 h1
  unfold nxM
  rw [h3]
  show nxK ts _ ns[j] = _
  generalize ns[j] = n at *
  subst hn'
  unfold nxK
  rw [if_neg]
  · simp [nx0, h2]
  · intro hh
    obtain ⟨ns2, hm2, he⟩ := List.any_eq_true.mp hh
    have he : ns2.getLast? = some n := by simpa using he
    have h7 := hPP.el ns (dueU_sub ns hm) (n + 1) (List.mem_of_getElem? h1)
    rcases hPP.last ns2 (dueU_sub ns2 hm2) _ he with h5 | h5
    · rw [h5] at h7; cases h7.2
    · omega
end
end Mine
end
section
open PySem PySem.W PyProof.Rows PySem.Spec PySem.Calls
namespace Mine
theorem fill7 {w : World} {h₀ : Heap} (X : (hd.heap_39 w.params).In h₀) : (hd.heap_39 w.params).In h₀ ∧ PySem.Challenge.rw_bu5043_01 = PySem.Challenge.rw_bu5043_01 := by
  k_fill
  exact ⟨X, rfl⟩
local macro_rules | `(tactic| k_room) => `(tactic| (simp only [depth_under_make, depth_under_kw, depth_in1, depth_deeper, depth_caller, ktrTop]; omega))
local macro_rules | `(tactic| k_mem) => `(tactic| first | assumption | (refine List.mem_append_left _ ?_; assumption))
local macro_rules | `(tactic| walk_at "call builtin:len") => `(tactic| (k_here; (with_reducible show wpAny _ _ (call (Value.builtin _) [Value.ref _]) _ _ _); k_dflt (refine' len_mem ?N ?h ?n ?z ?_; (case N => k_asm); (case h => k_mem); (case n => with_reducible assumption); (case z => omega))))
local macro_rules | `(tactic| walk_at "subscriptTail Name Name ref int") => `(tactic| (k_here; (with_reducible show wpAny _ _ (subscriptTail _ _ (Value.ref _) (Value.int _ _)) _ _ _); k_dflt (refine' item_mem ?N ?h ?z ?y ?x ?_ ?s ?g; (case N => k_asm); (case h => k_mem); (case z => omega); (case y => omega); (case x => assumption); (case s => with_unfolding_all rfl); (case g => (intro _; with_unfolding_all rfl)))))
local macro_rules | `(tactic| walk_at "call ref") => `(tactic| (k_here; k_dflt (first
  | (refine' call_cls ?k1 ?k2 ?k3 ?k4 ?k5 ?k6 ?_; (case k1 => k_asm); (case k2 => k_asm); (case k3 => k_asm); (case k4 => k_is); (case k5 => k_is); (case k6 => k_is); k_whole; intro x' d' h' F' N' l1 l2; (try k_lt l1); (try k_lt2 l2); (try k_sweep); k_enter)
  | (refine' call_meth ?k1 ?k2 ?_; (case k1 => k_asm); (case k2 => k_mem); k_whole; k_enter)
  | (refine wpAny_call ?_; k_enter))))

local macro_rules | `(tactic| walk_at "truthy ref") => `(tactic| (k_here; k_dflt (refine' truthy_mem ?N ?h ?n ?z ?b ?_; (case N => k_asm); (case h => k_mem); (case n => with_reducible assumption); (case z => omega); (case b => assumption))))
local macro_rules | `(tactic| walk_at "subscriptTail Name Slice ref ref") => `(tactic| (k_here; (with_reducible show wpAny _ _ (subscriptTail _ (PySem.Expr.Slice _ none none _) (Value.ref _) (Value.ref _)) _ _ _); k_dflt (refine' slice1_mem ?F ?N ?l ?n ?z ?_ ?s ?t; (case F => k_asm); (case N => k_asm); (case l => k_mem); (case n => with_reducible assumption); (case z => omega); (case s => with_unfolding_all rfl); (case t => kmk_pure)); intro D' h' F' N' l1; (try k_lt l1); (try k_sweep)))
local macro_rules | `(tactic| walk_at "setAttr ref") => `(tactic| (k_here; (with_reducible show wpAny _ _ (setAttr (Value.ref _) (Str.ofString "previous_token") _) _ _ _); k_dflt (refine' set_prev ?F ?X ?N ?m ?U ?_; (case F => k_asm); (case X => k_asm); (case N => k_asm); (case m => k_mem); (case U => k_upd)); intro h' F' N'; (try k_sweep)))
local macro_rules | `(tactic| walk_at "setAttr ref") => `(tactic| (k_here; (with_reducible show wpAny _ _ (setAttr (Value.ref _) (Str.ofString "next_token") _) _ _ _); k_dflt (refine' set_next ?F ?X ?N ?m ?U ?_; (case F => k_asm); (case X => k_asm); (case N => k_asm); (case m => k_mem); (case U => k_upd)); intro h' F' N'; (try k_sweep)))
local macro_rules | `(tactic| walk_at "getAttr ref") => `(tactic| (k_here; k_dflt (refine' get_own ?k1 ?k2 ?k3 ?k4 ?k5 ?k6 ?k7 ?k8 ?k9 ?_; (case k1 => k_asm); (case k2 => k_asm); (case k3 => k_inst); (case k4 => k_is); (case k5 => k_is); (case k6 => k_is); (case k7 => k_is); (case k8 => assumption); (case k9 => k_handed); k_whole)))
theorem ctor_c {w : World} {p : Program} {loose : List Str} {mean : ExcName → Option Value} {mg mb : Str → Option Value}
    (dp un : Nat) (gd : Option (List Code)) (cn : Str) (nm : List (Str × NameKind)) (ig ic : Bool) (mr : List (Str × Const)) (a : Addr) (ccd : Value) (cl : List (Str × Addr)) (outer : List Env) (A₀ : Around) (base h₀ : Heap) (L : Addr) (m : Str → Option Value) (s : Shared)
    (Q E : Value → Shared → Prop) (l : Addr) (k : Nat) (dep : Int) (td : Tok) (ts : List (Tk w.params)) (news : Led)
    (B : Below A₀ base outer h₀) (F : Fr h₀ L s.heap m) (X : (hd.heap_39 w.params).In h₀)
    (N : News h₀ L s.heap news) (T : Top p loose mean mg mb h₀) (R : Led) (hR : ∀ q ∈ R, q ∈ news) (hT : OffT ts R)
    (hl : (l, W.listOf (ts.map fun t => Value.ref t.a).toArray k) ∈ R) (hti : TIn ts (fun _ => .none) (fun _ => .none) news) (hS : Sep ts)
    (hn : ts.length ≤ 8)
    (hd' : dp + 6 < recursionLimit) (hu : un + 64 < cLine)
    (hret : ∀ (x : Ln w.params) (led' : Led) (k' : Nat) h' tk', x.dep = dep → Fr h₀ L h' m → News h₀ L h' led' → TIn ts (pv0 ts) (nx0 ts) led' → (∀ q ∈ R, q ∈ led') → (∀ q ∈ x.led, q ∈ led') → (x.l, W.listOf (ts.map fun t => Value.ref t.a).toArray k') ∈ led' → (∀ t ∈ ts, x.d ≠ t.d) → Q (.ref x.a) { s with heap := h', toks := tk' }) :
    wpAny (model pr w) (ktrTop dp un gd cn ⟨.function, nm, ig, ic, mr⟩ L a ccd cl outer) (call (.ref 132) [.int dep td, .ref l]) Q E s := by
  k_with_none
  w_top off
  have hvl : (ts.map fun t => Value.ref t.a).length = ts.length := List.length_map _
  have hl' := hR _ hl
  k_with "exec For Tuple Call cons nil" => refine stop_here ?_
  k_with "call type:enumerate" => refine stop_here ?_
  by_cases h0 : ts = []
  · subst h0
    have hvb : (!(([] : List (Tk w.params)).map fun t => Value.ref t.a).isEmpty) = false := rfl
    k_steps
    refine ln_end0 (P := w.params) (by assumption) (by assumption) fun x led' k' h' tk' e F' N' hR' hx hl' => ?_
    exact hret x led' k' h' tk' e F' N' (fun i t hi => by simp at hi) (fun q hq => hR' q (hR q hq)) hx hl' (fun t ht => nomatch ht)
  have hvb : (!(ts.map fun t => Value.ref t.a).isEmpty) = true := by cases ts with | nil => exact absurd rfl h0 | cons _ _ => rfl
  have htd : ∀ t ∈ ts, ∃ q ∈ news, q.1 = t.d := fun t ht => by
    obtain ⟨i, hi, rfl⟩ := List.getElem_of_mem ht
    exact ⟨_, hti i _ (List.getElem?_eq_getElem hi) (ts[i].d, dictOf (ts[i].es .none .none) ts[i].cnt) (by simp [Tk.led]), rfl⟩
  k_steps
  refine ⟨?_⟩
  with_reducible rename Fr _ _ _ _ => hF
  refine For_turns hF ?_
  k_steps
  refine ⟨?_⟩
  with_reducible rename News _ _ _ _ => hN
  with_reducible rename Fr _ _ _ _ => hF2
  obtain ⟨es, R1, g1, g2, g3, g4, g5, g6, N2, hR1, m1, m2, m3, hRR, hT1⟩ := ln_fold (ts := ts) hN hR hT (by first | assumption | exact tb_ltOf (by assumption)) (by omega) (by omega) htd
  refine enum_loop (σ := Unit) (fun _ => []) [Str.ofString "index", Str.ofString "tok"] (fun i _ nx => TIn ts (pvJ ts i) (nxJ ts i) nx ∧ ∀ q ∈ R1, q ∈ nx) () rfl hF2 N2 (.head _) (fun _ h => nomatch h) ⟨?_, hR1⟩ ?_ ?_
  · rw [pvJ_zero, nxJ_zero]
    exact fun i t hi q hq => .tail _ (.tail _ (.tail _ (hti i t hi q hq)))
  · rintro i v T' t c u nx h tk its hv hT' hoff hlD ⟨hTI, hRx⟩ F₁ N₁
    have hv2 : (ts.map fun t => Value.ref t.a)[1 + i]? = some v := by rw [← List.getElem?_drop]; exact hv
    rw [List.getElem?_map] at hv2
    obtain ⟨t1, h1, rfl⟩ := Option.map_eq_some_iff.mp hv2
    rw [Nat.add_comm 1 i] at h1
    have hlt := (List.getElem?_eq_some_iff.mp h1).1
    obtain ⟨t0, h00⟩ : ∃ t0, ts[i]? = some t0 := ⟨_, List.getElem?_eq_getElem (by omega)⟩
    have s01 := hS i (i + 1) t0 t1 (by omega) h00 h1
    have o1 := t0.o1; have o2 := t0.o2; have o3 := t0.o3; have o4 := t1.o1; have o5 := t1.o2; have o6 := t1.o3
    have hne : @LT.lt Nat _ t0.d t1.d := by omega
    have e1 : (t1.d, dictOf (t1.es .none .none) t1.cnt) ∈ nx := by
      have := hTI (i + 1) t1 h1 (t1.d, dictOf (t1.es (pvJ ts i (i + 1)) (nxJ ts i (i + 1))) t1.cnt) (by simp [Tk.led])
      have z1 : ¬ (i + 1 ≤ i) := by omega
      have z2 : ¬ (i + 1 < i) := by omega
      simpa [pvJ, nxJ, z1, z2] using this
    have e0 : (t0.d, dictOf (t0.es (pv0 ts i) .none) t0.cnt) ∈ nx := by
      have := hTI i t0 h00 (t0.d, dictOf (t0.es (pvJ ts i i) (nxJ ts i i)) t0.cnt) (by simp [Tk.led])
      simpa [pvJ, nxJ] using this
    have nn : ∀ q : Addr × Obj, q.1 ≠ t1.d → q.1 ≠ t0.d → q.1 ∉ [t1.d, t0.d] := fun q a b c => by
      rcases List.mem_cons.mp c with c | c
      · exact a c
      · exact b (List.mem_singleton.mp c)
    have a1 : (t1.a, instObj 486 t1.d) ∈ offs nx [t1.d, t0.d] := mem_offs (hTI (i + 1) t1 h1 _ (by simp [Tk.led])) (nn _ (by show t1.a ≠ t1.d; exact Nat.ne_of_gt o6) (by show t1.a ≠ t0.d; exact Nat.ne_of_gt (by omega)))
    have a0 : (t0.a, instObj 486 t0.d) ∈ offs nx [t1.d, t0.d] := mem_offs (hTI i t0 h00 _ (by simp [Tk.led])) (nn _ (by show t0.a ≠ t1.d; exact Nat.ne_of_lt (by omega)) (by show t0.a ≠ t0.d; exact Nat.ne_of_gt (by omega)))
    have hx0 : (ts.map fun t => Value.ref t.a)[((i : Int)).toNat]? = some (.ref t0.a) := by rw [Int.toNat_natCast, List.getElem?_map, h00]; rfl
    have mm : ∀ q ∈ R1, q ∈ offs nx [t1.d, t0.d] := fun q hq => mem_offs (hRx q hq) (nn q (hT1 q hq t1 (List.mem_of_getElem? h1)) (hT1 q hq t0 (List.mem_of_getElem? h00)))
    have mm1 := mm _ m1
    have mm2 := mm _ m2
    have mml := mm _ (hRR _ hl)
    have N2' := focus2 N₁ e1 e0
    have ho : OwnOff (offs nx [t1.d, t0.d] ++ its) [t1.d, t0.d] := off2 (offs_off _ _) hoff e1 e0
    have hu0 : ∀ q ∈ nx, q.1 = t0.d → q = (t0.d, dictOf (t0.es (pv0 ts i) .none) t0.cnt) := fun q hq e => news_uniq N₁ (List.mem_append_left _ e0) (List.mem_append_left _ hq) e
    clear N₁ hN N2
    k_steps
    have hadr : ∀ q ∈ (t1.d, dictOf (t1.es (.ref t0.a) .none) t1.cnt) :: (t0.d, dictOf (t0.es (pv0 ts i) (.ref t1.a)) t0.cnt) :: offs nx [t1.d, t0.d], q.1 ∈ nx.map (·.1) := fun q hq => by
      rcases List.mem_cons.mp hq with rfl | hq
      · exact List.mem_map.mpr ⟨_, e1, rfl⟩
      rcases List.mem_cons.mp hq with rfl | hq
      · exact List.mem_map.mpr ⟨_, e0, rfl⟩
      exact List.mem_map.mpr ⟨_, offs_sub hq, rfl⟩
    refine InvEndG.intro (nx := (t1.d, dictOf (t1.es (.ref t0.a) .none) t1.cnt) :: (t0.d, dictOf (t0.es (pv0 ts i) (.ref t1.a)) t0.cnt) :: offs nx [t1.d, t0.d]) (by assumption) (by assumption) ⟨.tail _ (.tail _ (mm _ m3)), (), ⟨?_, fun q hq => .tail _ (.tail _ (mm q hq))⟩, (fun _ h => nomatch h), by intro z _ h3; simp_all [mapE, kstB]⟩ ?_ ?_ ?_
    · rw [pvJ_succ h00, nxJ_succ h1]
      refine TIn.upd (led := (t1.d, dictOf (t1.es (.ref t0.a) .none) t1.cnt) :: (t0.d, dictOf (t0.es (pv0 ts i) .none) t0.cnt) :: offs nx [t1.d, t0.d]) hS (TIn.upd hS hTI h1 (.head _) fun q hq e => ?_) h00 (.tail _ (.head _)) fun q hq e => ?_
      · by_cases e2 : q.1 = t0.d
        · rw [hu0 q hq e2]; exact .tail _ (.head _)
        · exact .tail _ (.tail _ (mem_offs hq (nn q e e2)))
      · rcases List.mem_cons.mp hq with rfl | hq
        · exact .head _
        rcases List.mem_cons.mp hq with rfl | hq
        · exact absurd rfl e
        · exact .tail _ (.tail _ hq)
    · intro p hp b hb e
      obtain ⟨q, hq, rfl⟩ := List.mem_map.mp hb
      exact hoff p hp _ (hadr q hq) e
    · intro p hp
      rcases List.mem_cons.mp hp with rfl | hp
      · exact .head _
      rcases List.mem_cons.mp hp with rfl | hp
      · exact .tail _ (.head _)
      · exact .tail _ (.tail _ (List.mem_append_left _ hp))
    · exact fun p hp => .tail _ (.tail _ (List.mem_append_right _ hp))
  · rintro c u nx h tk ⟨hTI, hRx⟩ F₁ N₁
    k_steps
    have hlen : ((ts.map fun t => Value.ref t.a).drop 1).length = ts.length - 1 := by rw [List.length_drop, hvl]
    rw [hlen] at hTI
    obtain ⟨x, hx1, hx2, hx3, hx5, hx4⟩ := ln_mk (P := w.params) g1 g2 g3 g4 g5 g6 (hRx _ m1) (hRx _ m2)
    rw [← hx1]
    refine hret x nx k _ _ hx3 (by assumption) (by assumption) (hTI.congr (fun i hi => ?_) fun i hi => ?_) (fun q hq => hRx q (hRR q hq)) hx4 (by rw [hx2]; exact hRx _ (hRR _ hl)) (fun t ht => by rw [hx5]; exact hT1 _ m2 t ht)
    · simp only [pvJ]
      rw [if_pos (by omega)]
    · simp only [nxJ]
      by_cases h : i < ts.length - 1
      · rw [if_pos h]
      · rw [if_neg h, nx0, List.getElem?_eq_none (by omega)]
end Mine
end
section
open PySem PySem.W PyProof.Rows PySem.Spec PySem.Calls
namespace Mine
theorem fill8 {w : World} {h₀ : Heap} (X : (hd.heap_39 w.params).In h₀) : (hd.heap_39 w.params).In h₀ ∧ PySem.Challenge.rw_bu5043_01 = PySem.Challenge.rw_bu5043_01 := by
  k_fill
  exact ⟨X, rfl⟩
local macro_rules | `(tactic| k_room) => `(tactic| (simp only [depth_under_make, depth_under_kw, depth_in1, depth_deeper, depth_caller, ktrTop]; omega))
local macro_rules | `(tactic| k_mem) => `(tactic| first | assumption | (refine List.mem_append_left _ ?_; assumption))
local macro_rules | `(tactic| walk_at "call builtin:len") => `(tactic| (k_here; (with_reducible show wpAny _ _ (call (Value.builtin _) [Value.ref _]) _ _ _); k_dflt (refine' len_mem ?N ?h ?n ?z ?_; (case N => k_asm); (case h => k_mem); (case n => with_reducible assumption); (case z => omega))))
local macro_rules | `(tactic| walk_at "subscriptTail Name Name ref int") => `(tactic| (k_here; (with_reducible show wpAny _ _ (subscriptTail _ _ (Value.ref _) (Value.int _ _)) _ _ _); k_dflt (refine' item_mem ?N ?h ?z ?y ?x ?_ ?s ?g; (case N => k_asm); (case h => k_mem); (case z => omega); (case y => omega); (case x => assumption); (case s => with_unfolding_all rfl); (case g => (intro _; with_unfolding_all rfl)))))
local macro_rules | `(tactic| walk_at "subscriptTail Name BinOp ref int") => `(tactic| (k_here; (with_reducible show wpAny _ _ (subscriptTail _ _ (Value.ref _) (Value.int _ _)) _ _ _); k_dflt (refine' item_mem ?N ?h ?z ?y ?x ?_ ?s ?g; (case N => k_asm); (case h => k_mem); (case z => omega); (case y => omega); (case x => assumption); (case s => with_unfolding_all rfl); (case g => (intro _; with_unfolding_all rfl)))))
local macro_rules | `(tactic| walk_at "getAttr ref") => `(tactic| (k_here; k_dflt (refine' get_own ?k1 ?k2 ?k3 ?k4 ?k5 ?k6 ?k7 ?k8 ?k9 ?_; (case k1 => k_asm); (case k2 => k_asm); (case k3 => k_inst); (case k4 => k_is); (case k5 => k_is); (case k6 => k_is); (case k7 => k_is); (case k8 => assumption); (case k9 => k_handed); k_whole)))

theorem chained_c {w : World} {p : Program} {loose : List Str} {mean : ExcName → Option Value} {mg mb : Str → Option Value}
    (dp un : Nat) (gd : Option (List Code)) (cn : Str) (nm : List (Str × NameKind)) (ig ic : Bool) (mr : List (Str × Const)) (a : Addr) (ccd : Value) (cl : List (Str × Addr)) (outer : List Env) (A₀ : Around) (base h₀ : Heap) (L : Addr) (m : Str → Option Value) (s : Shared)
    (Q E : Value → Shared → Prop) (l : Addr) (k : Nat) (ts : List (Tk w.params)) (pv nx : Nat → Value) (news : Led)
    (B : Below A₀ base outer h₀) (F : Fr h₀ L s.heap m) (X : (hd.heap_39 w.params).In h₀)
    (N : News h₀ L s.heap news) (T : Top p loose mean mg mb h₀)
    (hl : (l, W.listOf (ts.map fun t => Value.ref t.a).toArray k) ∈ news)
    (ht : ∀ (i : Nat) (t : Tk w.params), ts[i]? = some t → ∀ q ∈ t.led (pv i) (nx i), q ∈ news)
    (hp0 : pv 0 = .none) (hpS : ∀ (i : Nat) (t : Tk w.params), ts[i]? = some t → pv (i + 1) = .ref t.a)
    (hn0 : ∀ i, i + 1 = ts.length → nx i = .none) (hnS : ∀ (i : Nat) (t : Tk w.params), ts[i + 1]? = some t → nx i = .ref t.a)
    (hn : ts.length ≤ 8)
    (hd' : dp + 6 < recursionLimit) (hu : un + 64 < cLine)
    (hret : ∀ h' tk', Fr h₀ L h' m → News h₀ L h' news → Q (.bool true) { s with heap := h', toks := tk' }) :
    wpAny (model pr w) (ktrTop dp un gd cn ⟨.function, nm, ig, ic, mr⟩ L a ccd cl outer) (call (.ref 518) [.ref l]) Q E s := by
  k_with_none
  w_top off
  have hvl : (ts.map fun t => Value.ref t.a).length = ts.length := List.length_map _
  k_with "pyIter ref" => refine stop_here ?_
  k_steps
  refine ⟨?_⟩
  refine rg_loop (σ := Unit) (fun _ => []) [Str.ofString "before", Str.ofString "behind"] (fun i _ nx => nx = news) () rfl (by assumption) (by omega) (by assumption) (by assumption) (fun _ h => nomatch h) rfl ?_ ?_
  · rintro i c tk₀ u nx' h tk own hi hoff rfl F₁ N₁
    obtain ⟨t, hti⟩ : ∃ t, ts[i]? = some t := ⟨_, List.getElem?_eq_getElem hi⟩
    have hx : (ts.map fun t => Value.ref t.a)[((i : Int)).toNat]? = some (.ref t.a) := by simp [hti]
    have m1 : (t.a, instObj 486 t.d) ∈ nx' := ht i t hti _ (by simp [Tk.led])
    have m2 : (t.d, dictOf (t.es (pv i) (nx i)) t.cnt) ∈ nx' := ht i t hti _ (by simp [Tk.led])
    have hp := hp0
    generalize hpv : pv i = p at *
    generalize hnx : nx i = n at *
    have g1 := t.gprev p n
    have g2 := t.gnext p n
    have hpI : (i = 0 ∧ p = .none) ∨ ∃ tp : Tk w.params, 0 < (i : Int) ∧ p = .ref tp.a ∧ (ts.map fun t => Value.ref t.a)[((i : Int) - 1).toNat]? = some (.ref tp.a) := by
      cases i with
      | zero => exact .inl ⟨rfl, by rw [← hpv, hp0]⟩
      | succ j =>
        have hj : j < ts.length := by omega
        refine .inr ⟨ts[j], by omega, by rw [← hpv, hpS j _ (List.getElem?_eq_getElem hj)], ?_⟩
        have e : (((j + 1 : Nat) : Int) - 1).toNat = j := by omega
        rw [e, List.getElem?_map, List.getElem?_eq_getElem hj]
        rfl
    have hnI : (¬ (i : Int) + 1 < (ts.length : Int) ∧ n = .none) ∨ ∃ tn : Tk w.params, (i : Int) + 1 < (ts.length : Int) ∧ n = .ref tn.a ∧ (ts.map fun t => Value.ref t.a)[((i : Int) + 1).toNat]? = some (.ref tn.a) := by
      by_cases h : i + 1 < ts.length
      · refine .inr ⟨ts[i + 1], by omega, by rw [← hnx, hnS i _ (List.getElem?_eq_getElem h)], ?_⟩
        have e : ((i : Int) + 1).toNat = i + 1 := by omega
        rw [e, List.getElem?_map, List.getElem?_eq_getElem h]
        rfl
      · exact .inl ⟨by omega, by rw [← hnx, hn0 i (by omega)]⟩
    clear hpv hnx
    rcases hpI with ⟨hi0, rfl⟩ | ⟨tp, hi0, rfl, hxp⟩ <;> rcases hnI with ⟨hi1, rfl⟩ | ⟨tn, hi1, rfl, hxn⟩
    · have d0 : decide (0 < (i : Int)) = false := decide_eq_false (by omega)
      have d1 : decide ((i : Int) + 1 < (ts.length : Int)) = false := decide_eq_false hi1
      k_steps
      exact InvEndG.intro (by assumption) (by assumption) ⟨(), rfl, (fun _ h => nomatch h), by intro z h1 _ h3; simp_all [mapS, kstB]⟩ hoff (fun p hp => List.mem_append_left _ hp) (fun p hp => List.mem_append_right _ hp)
    · have d0 : decide (0 < (i : Int)) = false := decide_eq_false (by omega)
      have d1 : decide ((i : Int) + 1 < (ts.length : Int)) = true := decide_eq_true hi1
      k_steps
      exact InvEndG.intro (by assumption) (by assumption) ⟨(), rfl, (fun _ h => nomatch h), by intro z h1 _ h3; simp_all [mapS, kstB]⟩ hoff (fun p hp => List.mem_append_left _ hp) (fun p hp => List.mem_append_right _ hp)
    · have d0 : decide (0 < (i : Int)) = true := decide_eq_true (by omega)
      have d1 : decide ((i : Int) + 1 < (ts.length : Int)) = false := decide_eq_false hi1
      k_steps
      exact InvEndG.intro (by assumption) (by assumption) ⟨(), rfl, (fun _ h => nomatch h), by intro z h1 _ h3; simp_all [mapS, kstB]⟩ hoff (fun p hp => List.mem_append_left _ hp) (fun p hp => List.mem_append_right _ hp)
    · have d0 : decide (0 < (i : Int)) = true := decide_eq_true (by omega)
      have d1 : decide ((i : Int) + 1 < (ts.length : Int)) = true := decide_eq_true hi1
      k_steps
      exact InvEndG.intro (by assumption) (by assumption) ⟨(), rfl, (fun _ h => nomatch h), by intro z h1 _ h3; simp_all [mapS, kstB]⟩ hoff (fun p hp => List.mem_append_left _ hp) (fun p hp => List.mem_append_right _ hp)
  · rintro c u nx' h tk rfl F₁ N₁
    k_steps
    exact hret _ _ (by assumption) (by assumption)
end Mine
end
section
open PySem PySem.W PyProof.Rows PySem.Spec PySem.Calls
namespace Mine
abbrev tabO (ps : Array Value) : Obj := { cls := .none, data := .fields ps }
def GTab (pos : Pos) (ps : Array Value) : Prop := ps = #[] ∨ ∃ c' : Addr, ps = #[rawInt pos.line, rawInt pos.col, .ref c']
theorem GTab.triples {pos : Pos} {ps : Array Value} (h : GTab pos ps) : TriplesOk ps.toList := by
  rcases h with rfl | ⟨c, rfl⟩
  · simp [TriplesOk]
  · simp [TriplesOk, rawInt]
section
variable {prog : Program} {w : World} {M : Model} {A : Around} {E : Value → Shared → Prop} {s : Shared}
theorem genCode_any {env : Env} {c P : Addr} {ps : Array Value} {pos : Pos} {qn : Str} {scope : Scope} {Q : Value → Shared → Prop} (hc : env.code = .ref c) (hok : s.heap.IsCode c P ps) (htab : s.heap.TableAt c P ps) (hps : GTab pos ps)
    (hQ : ∀ c' ps' h' tk, GTab pos ps' → Heap.ExtBut P s.heap h' → s.heap.objs.size ≤ h'.objs.size → h'.get? P = some (tabO ps') → Q (.ref c') { s with heap := h', toks := tk }) :
    wpAny M A (genexprCode env pos qn scope) Q E s := by
  rcases hps with rfl | ⟨c', rfl⟩
  · refine wpAny_genexprCodeX hc hok htab rfl fun c' h' tk hx h1 h2 _ _ ht _ => hQ c' _ h' tk (.inr ⟨c', rfl⟩) hx (Nat.le_trans h1 (Nat.le_of_lt h2)) ?_
    have := ht.2
    simpa using this
  · obtain ⟨o, vs, file, tf, flags, tg, inF, text, tt, op, ho, hd, h11, h2, h7, h9, h10, hop, hpd, htr, hne⟩ := id hok
    unfold genexprCode codeAt
    rw [hc, if_neg (show ¬ ((Value.ref c == Value.none) = true) from Bool.false_ne_true)]
    refine wpAny_bind (wpAny_fieldsOf ho hd ?_)
    rw [h11]
    refine wpAny_bind (wpAny_fieldsOf hop hpd ?_)
    have hf : codeAmong pos (#[rawInt pos.line, rawInt pos.col, Value.ref c']).toList = some (.ref c') := by
      simp [codeAmong, rawInt]
    rw [hf]
    exact wpAny_pure (hQ c' _ s.heap s.toks (.inr ⟨c', rfl⟩) (fun _ _ _ e => e) (Nat.le_refl _) htab.2)
end

section
variable {prog : Program} {w : World} {A : Around} {E : Value → Shared → Prop} {s : Shared}
/-- what the iterable's value must do -/
def GenP (prog : Program) (w : World) (A : Around) (E : Value → Shared → Prop) (env : Env) (elt : PySem.Expr) (x : Str) (scope : Scope) (pos : Pos) (Q : Value → Shared → Prop) (xv : Value) (s₁ : Shared) : Prop :=
  wpAny (model prog w) A (pyIter xv) (fun it s₂ => s₂.heap.NoLimit ∧
      wpAny (model prog w) A (genexprCode env pos (env.qual ++ "<genexpr>") scope) (fun code s₃ => wpAny (model prog w) A (builtinsFor env.globals env.builtins) (fun bi s₄ =>
        ∃ I fp wr n₀ P St₀ pz F, it = .ref I ∧ (∀ A' : Around, A'.handled = none → Walks prog w A' I fp wr n₀ P St₀) ∧ St₀ 0 s₄.heap ∧ (∀ b ∈ fp, b < s₄.heap.objs.size) ∧ s₄.heap.NoLimit ∧ cStatics ∉ wr ∧
          (∀ href : Heap, (∀ b o, s₄.heap.get? b = some o → href.get? b = some o) →
            QuietGen prog w (genEnv scope [] s₄.heap.objs.size code bi env) x [] elt (List.range s₄.heap.objs.size) wr P pz F href) ∧
          (∀ a h₅ tk gs, gs.bare = true → s₄.heap.objs.size < a → h₅.objs.size = a + 1 → (∀ b o, s₄.heap.get? b = some o → h₅.get? b = some o) →
            WalksS prog w A.in4 a (a :: s₄.heap.objs.size :: List.range s₄.heap.objs.size) (s₄.heap.objs.size :: wr) (GenOnlyQ s₄.gens.size) (passing pz n₀ 0).length
              (fun j y => ∃ i, (passing pz n₀ 0)[j]? = some i ∧ F i y) (GenAt prog w A.in4 a s₄.gens.size s₄.heap.objs.size (List.range s₄.heap.objs.size) wr pz n₀ F) →
            GenAt prog w A.in4 a s₄.gens.size s₄.heap.objs.size (List.range s₄.heap.objs.size) wr pz n₀ F 0 { s₄ with gens := s₄.gens.push gs, toks := tk, heap := h₅ } →
            Q (.ref a) { s₄ with gens := s₄.gens.push gs, toks := tk, heap := h₅ })) E s₃) E s₂) E s₁
theorem gen_start {env : Env} {elt iter : PySem.Expr} {x : Str} {px : Pos} {scope : Scope} {pos : Pos} {Q : Value → Shared → Prop}
    (h : wpAny (model prog w) A (eval iter env) (GenP prog w A E env elt x scope pos Q) E s)
    (hh : A.handled = none) (hroom : A.depth < recursionLimit)
    (hco : scope.isCoroutine = false) (hclos : closureFor scope env = pure []) (hcell : ∀ y ∈ scope.names, y.2 ≠ .cell) (h0 : scope.names.lookup (".0" : Str) = some NameKind.local)
    (hx : scope.names.lookup x = some .local) (hkind : scope.kind = .function) (hs : ∀ x, genFold iter env x = pure x) :
    wpAny (model prog w) A (eval (.GeneratorExp elt [⟨.Name x px, iter, [], 0⟩] scope pos) env) Q E s :=
  wpAny_GeneratorExp_walksQ hh hco hclos hcell h0 hx hkind hroom h hs
theorem gen_list {env : Env} {elt : PySem.Expr} {x : Str} {scope : Scope} {pos : Pos} {Q : Value → Shared → Prop} {h₀ : Heap} {L c P l : Addr} {m mg mb : Str → Option Value} {mean : ExcName → Option Value} {p : Program} {loose : List Str} {news : Led} {ps : Array Value} {vs : List Value} {k : Nat} {Fv : Nat → Value → Prop}
    (F : Fr h₀ L s.heap m) (N : News h₀ L s.heap news) (T : Top p loose mean mg mb h₀) (G : AllBare s.gens)
    (hl : (l, W.listOf vs.toArray k) ∈ news) (hP : (P, tabO ps) ∈ news) (hps : GTab pos ps)
    (hcd : ∀ (h : Heap) (ps : Array Value), (∀ b o, h₀.get? b = some o → h.get? b = some o) → h.get? P = some (tabO ps) → TriplesOk ps.toList → h.IsCode c P ps ∧ h.TableAt c P ps)
    (hq : ∀ (C : Addr) (code : Value) (A' : Around) (E' : Value → Shared → Prop) (i : Nat) (v : Value) (t : Shared) (m₂ : Str → Option Value), A'.handled = none → vs[i]? = some v → t.heap.Ns C m₂ → m₂ x = some v → (∀ b o, b ≠ P → s.heap.get? b = some o → t.heap.get? b = some o) →
      wpAny (model prog w) A' (eval elt (genEnv scope [] C code builtinsNs env)) (fun y s₃ => Fv i y ∧ Keeps t s₃) E' t)
    (hQ : ∀ (a K : Addr) ps' s₅, GTab pos ps' → Fr h₀ L s₅.heap m → News h₀ L s₅.heap ((P, tabO ps') :: offs news [P]) → AllBare s₅.gens → s₅.os = s.os → L ≤ K → (∀ q ∈ (P, tabO ps') :: offs news [P], q.1 ≤ K) →
      Gen prog w A K a vs.length Fv s₅ → Q (.ref a) s₅)
    (hg : env.globals = mainGlobals) (hcode : env.code = .ref c) :
    GenP prog w A E env elt x scope pos Q (.ref l) s := by
  have hls : s.heap.IsList l vs.toArray := isl_mem N hl
  have hlt : l < s.heap.objs.size := Heap.lt_size (N _ hl).1
  have hPlt : P < s.heap.objs.size := Heap.lt_size (N _ hP).1
  have hlP : l ≠ P := fun e => by
    have h1 := (N _ hl).1
    have h2 := (N _ hP).1
    dsimp only at h1 h2
    rw [e, h2] at h1
    cases h1
  have hlim : s.heap.NoLimit := T.nolimit.keeps F.keep
  have hstP : cStatics ≠ P := fun e => by
    obtain ⟨_, ⟨o, es, ep, ho, hd, _⟩, _⟩ := T.nolimit
    have h2 := (N _ hP).2.2
    dsimp only at h2
    rw [← e, ho] at h2
    cases h2
  have hLP : L ≠ P := (N _ hP).2.1.symm
  have hP0 : h₀.get? P = none := (N _ hP).2.2
  refine wpAny_pyIter_list hls ?_
  have keep1 : ∀ b o, s.heap.get? b = some o → (s.heap.push { cls := .type "list_iterator", data := .fields #[.ref l, .int 0 0] }).get? b = some o := fun b o e => Heap.get?_push_of_some _ e
  have hI : (s.heap.push { cls := .type "list_iterator", data := .fields #[.ref l, .int 0 0] }).get? s.heap.objs.size = some { cls := .type "list_iterator", data := .fields #[.ref l, .int 0 0] } := Heap.get?_push_size _ rfl
  have hsz : (s.heap.push { cls := .type "list_iterator", data := .fields #[.ref l, .int 0 0] }).objs.size = s.heap.objs.size + 1 := Heap.size_push _ _
  generalize hh2 : s.heap.push { cls := .type "list_iterator", data := .fields #[.ref l, .int 0 0] } = H2 at keep1 hI hsz ⊢
  refine ⟨hlim.keeps keep1, ?_⟩
  obtain ⟨ic, it⟩ := hcd H2 ps (fun b o e => keep1 b o (F.keep b o e)) (keep1 _ _ (N _ hP).1) hps.triples
  refine genCode_any hcode ic it hps fun c' ps' H3 tk3 hps' hx3 hsz3 htab3 => ?_
  have keep3 : ∀ b o, b ≠ P → s.heap.get? b = some o → H3.get? b = some o := fun b o hb e => hx3 b o hb (keep1 b o e)
  have hI3 : H3.get? s.heap.objs.size = some { cls := .type "list_iterator", data := .fields #[.ref l, .int 0 0] } := hx3 _ _ (Nat.ne_of_gt hPlt) hI
  have hsz3' : s.heap.objs.size < H3.objs.size := Nat.lt_of_lt_of_le (by rw [hsz]; exact Nat.lt_succ_self _) hsz3
  have k0 : ∀ b o, h₀.get? b = some o → H3.get? b = some o := fun b o e => keep3 b o (fun q => by rw [q, hP0] at e; cases e) (F.keep b o e)
  obtain ⟨bm, ob, bo⟩ := bmod_of_top T
  have bo3 : BMod H3 mainGlobals mg bm ob := bo.keeps k0
  refine wpAny_builtinsFor (hg ▸ bo3.ns) bo3.name bo3.ne bo3.obj bo3.cls bo3.dict bo3.data ?_
  have hl3 : H3.IsList l vs.toArray := hls.at fun o e => keep3 l o hlP e
  refine ⟨s.heap.objs.size, [s.heap.objs.size, l], [s.heap.objs.size], vs.length, fun i v => vs[i]? = some v, fun i h => h.IsListIter s.heap.objs.size l i ∧ h.IsList l vs.toArray, fun _ => true, Fv, rfl, (fun A' hA => by have W := Walks.list (prog := prog) (w := w) hA s.heap.objs.size l (Nat.ne_of_lt hlt) vs.toArray; simpa using W), ⟨⟨_, hI3, rfl, rfl⟩, hl3⟩, ?_, T.nolimit.keeps k0, ?_, ?_, ?_⟩
  · intro b hb
    rcases List.mem_cons.mp hb with rfl | hb
    · exact hsz3'
    · rw [List.mem_singleton.mp hb]; exact Nat.lt_trans hlt hsz3'
  · intro hm
    have : cStatics < s.heap.objs.size := let ⟨_, hn, _⟩ := hlim; hn.lt
    exact Nat.ne_of_lt this (List.mem_singleton.mp hm)
  · intro href hhref
    refine ⟨fun A' E' i v t m₂ hA hv hn hm hk => ?_, fun A' E' i v t m₂ hA hv _ hn hm hk => ?_⟩
    · exact wpAny_pure ⟨rfl, t.heap, t.toks, rfl, fun _ _ e => e⟩
    · refine hq H3.objs.size (.ref c') A' E' i v t m₂ hA hv hn hm fun b o hb e => ?_
      have hbl : b < s.heap.objs.size := Heap.lt_size e
      exact hk b (List.mem_range.mpr (Nat.lt_trans hbl hsz3')) (fun hm => Nat.ne_of_lt hbl (List.mem_singleton.mp hm)) o (hhref b o (keep3 b o hb e))
  · intro a h₅ tk gs hb hag hsz₅ hk₅ W hat
    have k5 : ∀ b o, b ≠ P → s.heap.get? b = some o → h₅.get? b = some o := fun b o hb e => hk₅ b o (keep3 b o hb e)
    have hpass : passing (fun _ => true) vs.length 0 = List.range vs.length := by simp [passing]
    refine hQ a (s.heap.objs.size - 1) ps' _ hps' ?_ ?_ (G.push hb) rfl ?_ ?_ ?_
    · exact ⟨F.ns.at' fun o e => k5 L o hLP e, fun b o e => k5 b o (fun q => by rw [q, hP0] at e; cases e) (F.keep b o e), F.above⟩
    · intro q hq'
      rcases List.mem_cons.mp hq' with rfl | hq'
      · exact ⟨hk₅ _ _ htab3, (N _ hP).2⟩
      · have z := N q (offs_sub hq')
        exact ⟨k5 _ _ (offs_off _ _ q hq' P (by simp)) z.1, z.2⟩
    · exact Nat.le_sub_one_of_lt F.ns.lt
    · intro q hq'
      have hlt' : q.1 < s.heap.objs.size := by
        rcases List.mem_cons.mp hq' with rfl | hq'
        · exact hPlt
        · exact Heap.lt_size (N q (offs_sub hq')).1
      have hlt'' : @LT.lt Nat _ q.1 s.heap.objs.size := hlt'
      exact Nat.le_sub_one_of_lt hlt''
    · rw [hpass] at W
      have X : Gen prog w A (s.heap.objs.size - 1) a (List.range vs.length).length (fun j y => ∃ i, (List.range vs.length)[j]? = some i ∧ Fv i y) { heap := h₅, gens := s.gens.push gs, drawn := s.drawn, toks := tk, os := s.os } := by
        refine ⟨_, _, _, _, W, hat, (fun i s' st => st.1.typeIs), List.mem_cons_self, ?_, ?_⟩
        · intro b hb
          show @LT.lt Nat _ b h₅.objs.size
          have hag' : @LT.lt Nat _ H3.objs.size a := hag
          rw [hsz₅]
          rcases List.mem_cons.mp hb with hb | hb
          · rw [hb]; exact Nat.lt_succ_self _
          · rcases List.mem_cons.mp hb with hb | hb
            · rw [hb]; exact Nat.lt_succ_of_lt hag'
            · exact Nat.lt_succ_of_lt (Nat.lt_trans (List.mem_range.mp hb) hag')
        · intro b hb
          have hz : 0 < s.heap.objs.size := Nat.lt_of_le_of_lt (Nat.zero_le _) hPlt
          rcases List.mem_cons.mp hb with hb | hb
          · rw [hb]; exact Nat.lt_of_le_of_lt (Nat.sub_le _ _) hsz3'
          · rw [List.mem_singleton.mp hb]; exact Nat.sub_lt hz Nat.zero_lt_one
      rw [List.length_range] at X
      refine X.imp fun j y hy => ?_
      obtain ⟨i, hi, hF⟩ := hy
      obtain ⟨_, e⟩ := List.getElem?_eq_some_iff.mp hi
      have e2 : j = i := by simpa using e
      exact e2 ▸ hF
end

theorem fill_g1 {w : World} {h₀ : Heap} (X : (hd.heap_39 w.params).In h₀) : (hd.heap_39 w.params).In h₀ ∧ PySem.Challenge.rw_bu5043_01 = PySem.Challenge.rw_bu5043_01 := by
  k_fill
  exact ⟨X, rfl⟩
section
variable {prog : Program} {w : World} {A : Around} {E : Value → Shared → Prop}
theorem elt_val {cenv : Env} {x : Str} {p1 p2 : Pos} {t : Shared} {tk : Tk w.params} {pp nn : Value} {m₂ : Str → Option Value}
    (hk : cenv.scope.kind = .function) (hl : cenv.kindOf x = some .local) (hdb : (x == ("__debug__" : Str)) = false) (hns : t.heap.Ns cenv.locals m₂) (hm : m₂ x = some (.ref tk.a))
    (X : (hd.heap_39 w.params).In t.heap) (h1 : t.heap.get? tk.a = some (instObj 486 tk.d)) (h2 : t.heap.get? tk.d = some (dictOf (tk.es pp nn) tk.cnt)) {Q : Value → Shared → Prop}
    (hq : Q (.str tk.val tk.vt) { t with toks := t.toks + 1 }) :
    wpAny (model prog w) A (eval (.Attribute (.Name x p1) (Str.ofString "value") p2) cenv) Q E t := by
  refine Attribute_Name_ (wpAny_Name (wpAny_loadName_local hk hl hns hm ?_) hdb)
  have I : InstAt t.heap tk.a (instObj 486 tk.d) 486 (some (dictOf (tk.es pp nn) tk.cnt)) := ⟨h1, rfl, rfl, h2⟩
  exact get_value X I (plainGet_of (name := Str.ofString "value") (K := hd.heap_39 w.params) (C := 486) (by k_is)).1 (findObj_own (attr := none) (by k_is) (by k_is) rfl (tk.gval pp nn)) rfl hq
end
section
variable {prog : Program} {w : World} {A : Around} {E : Value → Shared → Prop} {s : Shared} {h₀ : Heap} {L a K : Addr} {m : Str → Option Value} {news : Led} {n : Nat} {Q : Value → Shared → Prop}
theorem any_gen {tr : Nat → Bool} (F : Fr h₀ L s.heap m) (N : News h₀ L s.heap news) (G : AllBare s.gens) (hLK : L ≤ K) (hK : ∀ q ∈ news, q.1 ≤ K) (X : Gen prog w A K a n (fun j v => v = .bool (tr j)) s)
    (hQ : ∀ s', Fr h₀ L s'.heap m → News h₀ L s'.heap news → AllBare s'.gens → s'.os = s.os → Q (.bool ((List.range n).any tr)) s') : wpAny (model prog w) A (call (.builtin "any") [.ref a]) Q E s :=
  any_rowsK F G X hLK tr (fun i v s Q E hv hq => by rw [hv]; exact wpAny_truthy_bool hq) fun s' F' G' os hk => hQ s' F' (fun p hp => ⟨hk _ _ (hK p hp) (N p hp).1, (N p hp).2⟩) G' os
theorem join_gen' {sep : Str} {t : Tok} {tx : Nat → Str} (F : Fr h₀ L s.heap m) (N : News h₀ L s.heap news) (G : AllBare s.gens) (hLK : L ≤ K) (hK : ∀ q ∈ news, q.1 ≤ K) (X : Gen prog w A K a n (fun j v => ∃ u, v = .str (tx j) u) s)
    {texts : List Str} (htx : (List.range n).map tx = texts) (hok : JoinOk sep texts = true) (hn : n ≤ 1000)
    (hQ : ∀ s' t', Fr h₀ L s'.heap m → News h₀ L s'.heap news → AllBare s'.gens → s'.os = s.os → Q (.str (Txt.join sep texts) t') s') : wpAny (model prog w) A (call (.builtin "str.join") [.str sep t, .ref a]) Q E s := by
  subst htx
  exact join_rowsK F G X hLK tx (fun j v hv => hv) hok (fun s' t' F' G' os hk => hQ s' t' F' (fun p hp => ⟨hk _ _ (hK p hp) (N p hp).1, (N p hp).2⟩) G' os) (Nat.le_trans hn (by decide))
end

theorem code_AsCode {P : Params} {h : Heap} {ps : Array Value} (X : (hd.heap_39 P).In h) (hP : h.get? 69 = some (tabO ps)) (ht : TriplesOk ps.toList) : h.IsCode 73 69 ps ∧ h.TableAt 73 69 ps := by
  have e : h.get? 73 = some ⟨.type "code", none, .fields #[.str (Str.ofString "AsCode") 254, .str (Str.ofString "LogicalLine.AsCode") 255, .str (Str.ofString "/claim/cut.py") 256, .int 48 0, .int 2 0, .int 0 0, .int 0 0, .int 3 0, .ref 68, .bool true, .int 181 0, .ref 69, .none, .ref 70, .ref 71, .ref 72, .int 261 0, .int 48 0, .str (Str.ofString "/claim/cut.py") 262], #[]⟩ := X _ _ (by k_is)
  exact ⟨⟨_, _, _, _, _, _, _, _, _, _, e, rfl, rfl, rfl, rfl, rfl, rfl, hP, rfl, ht, by decide⟩, ⟨_, _, e, rfl, rfl, rfl⟩, hP⟩

theorem code_has_semicolon {P : Params} {h : Heap} {ps : Array Value} (X : (hd.heap_39 P).In h) (hP : h.get? 123 = some (tabO ps)) (ht : TriplesOk ps.toList) : h.IsCode 127 123 ps ∧ h.TableAt 127 123 ps := by
  have e : h.get? 127 = some ⟨.type "code", none, .fields #[.str (Str.ofString "has_semicolon") 311, .str (Str.ofString "LogicalLine.has_semicolon") 312, .str (Str.ofString "/claim/cut.py") 313, .int 76 0, .int 1 0, .int 0 0, .int 0 0, .int 3 0, .ref 122, .bool true, .int 181 0, .ref 123, .none, .ref 124, .ref 125, .ref 126, .int 315 0, .int 76 0, .str (Str.ofString "/claim/cut.py") 316], #[]⟩ := X _ _ (by k_is)
  exact ⟨⟨_, _, _, _, _, _, _, _, _, _, e, rfl, rfl, rfl, rfl, rfl, rfl, hP, rfl, ht, by decide⟩, ⟨_, _, e, rfl, rfl, rfl⟩, hP⟩

/-- what a generator's element may read: the tokens stand, K stands -/
theorem gen_tok_at {w : World} {h₀ h : Heap} {L P : Addr} {m : Str → Option Value} {ps : Array Value} {news : Led} {ts : List (Tk w.params)} {pv nx : Nat → Value} {t : Shared} (F : Fr h₀ L h m) (N : News h₀ L h news) (X : (hd.heap_39 w.params).In h₀) (hP : (P, tabO ps) ∈ news) (hti : TIn ts pv nx news)
    (hk : ∀ b o, b ≠ P → h.get? b = some o → t.heap.get? b = some o) :
    (hd.heap_39 w.params).In t.heap ∧ ∀ (i : Nat) (tk : Tk w.params), ts[i]? = some tk → t.heap.get? tk.a = some (instObj 486 tk.d) ∧ t.heap.get? tk.d = some (dictOf (tk.es (pv i) (nx i)) tk.cnt) := by
  have hP0 : h₀.get? P = none := (N _ hP).2.2
  have hPh : h.get? P = some (tabO ps) := (N _ hP).1
  refine ⟨fun a o e => ?_, fun i tk hi => ⟨?_, ?_⟩⟩
  · have e0 := X a o e
    refine hk a o (fun q => ?_) (F.keep a o e0)
    rw [q, hP0] at e0; cases e0
  · have z := (N _ (hti i tk hi (tk.a, instObj 486 tk.d) (by simp [Tk.led]))).1
    refine hk _ _ (fun q => ?_) z
    dsimp only at z
    rw [q, hPh] at z; cases z
  · have z := (N _ (hti i tk hi (tk.d, dictOf (tk.es (pv i) (nx i)) tk.cnt) (by simp [Tk.led]))).1
    refine hk _ _ (fun q => ?_) z
    dsimp only at z
    rw [q, hPh] at z; cases z

theorem any_elim {β : Type} (B : List β) (q : β → Bool) : ((List.range B.length).any fun j => (B[j]?).elim false q) = B.any q := by
  rw [Bool.eq_iff_iff, List.any_eq_true, List.any_eq_true]
  constructor
  · rintro ⟨j, hj, h⟩
    have hj' := List.mem_range.mp hj
    rw [List.getElem?_eq_getElem hj'] at h
    exact ⟨_, List.getElem_mem hj', h⟩
  · rintro ⟨b, hb, h⟩
    obtain ⟨j, hj, rfl⟩ := List.getElem_of_mem hb
    exact ⟨j, List.mem_range.mpr hj, by rw [List.getElem?_eq_getElem hj]; exact h⟩
theorem map_elim {β γ : Type} (B : List β) (f : β → γ) (d : γ) : ((List.range B.length).map fun j => (B[j]?).elim d f) = B.map f := by
  apply List.ext_getElem?
  intro i
  by_cases hi : i < B.length
  · simp [hi]
  · simp [List.getElem?_eq_none (Nat.le_of_not_lt hi), hi]

section
variable {prog : Program} {w : World} {A : Around} {E : Value → Shared → Prop} {s : Shared} {Q : Value → Shared → Prop}
theorem add_str' {x y : Str} {t u : Tok} (h1 : x.length ≤ 1000) (h2 : y.length ≤ 1000) (h : ∀ t' tk, Q (.str (x ++ y) t') { s with toks := tk }) : wpAny (model prog w) A (binaryOp .Add (.str x t) (.str y u)) Q E s :=
  add_str h (by rw [sizeLine_eq]; omega)
end
theorem sum_vals {P : Params} : ∀ ts : List (Tk P), ((ts.map fun t => t.val).map (·.length)).sum ≤ 10 * ts.length
  | [] => Nat.le_refl _
  | t :: r => by
    have := sum_vals r
    have := t.vlen
    simp only [List.map_cons, List.sum_cons, List.length_cons]
    omega
theorem join_vals_ok {P : Params} (ts : List (Tk P)) (hn : ts.length ≤ 8) : JoinOk (Str.ofString " ") (ts.map fun t => t.val) = true := by
  refine joinOk_of ?_
  have h1 := sum_vals ts
  have e : (Str.ofString " ").length = 1 := by decide
  rw [e, List.length_map]
  omega
theorem txt_join (sep : Str) (ys : List Str) : Txt.join sep ys = Str.join sep ys := by
  unfold Txt.join
  rw [StrLaws.glued_eq_join]
theorem join_vals_len {P : Params} (ts : List (Tk P)) (hn : ts.length ≤ 8) : (Txt.join (Str.ofString " ") (ts.map fun t => t.val)).length ≤ 1000 := by
  have h := StrLaws.join_length_le (Str.ofString " ") (ts.map fun t => t.val)
  have h1 := sum_vals ts
  have e : (Str.ofString " ").length = 1 := by decide
  rw [e, List.length_map] at h
  rw [txt_join]
  omega
theorem mul_len2 {n : Int} (h : n ≤ 3) : (Txt.mul (Str.ofString "  ") n).length ≤ 1000 := by
  have := len_mul_leN (x := Str.ofString "  ") (n := n) (L := 2) (N := 3) (by decide) (by omega)
  omega
end Mine
end
section
open PySem PySem.W PyProof.Rows PySem.Spec PySem.Calls
namespace Mine
theorem s_assoc (a b c : Str) : a ++ b ++ c = a ++ (b ++ c) := by
  show (⟨a.cps ++ b.cps ++ c.cps⟩ : Str) = ⟨a.cps ++ (b.cps ++ c.cps)⟩
  rw [Array.append_assoc]
theorem s_nil (a : Str) : a ++ Str.ofString "" = a := by
  show (⟨a.cps ++ (Str.ofString "").cps⟩ : Str) = a
  rw [show (Str.ofString "").cps = #[] by decide, Array.append_empty]
theorem nil_s (a : Str) : Str.ofString "" ++ a = a := by
  show (⟨(Str.ofString "").cps ++ a.cps⟩ : Str) = a
  rw [show (Str.ofString "").cps = #[] by decide, Array.empty_append]
def EndsOk (x : Str) : Prop := ∃ (l : List Nat) (c : Nat), x.cps.toList = l ++ [c] ∧ c ≠ 32
theorem EndsOk.pre {x : Str} (h : EndsOk x) (a : Str) : EndsOk (a ++ x) := by
  obtain ⟨l, c, e, hc⟩ := h
  refine ⟨a.cps.toList ++ l, c, ?_, hc⟩
  show (a.cps ++ x.cps).toList = _
  rw [Array.toList_append, e, List.append_assoc]
theorem endsOk_val {v : Str} (h : okV v) : EndsOk v := by
  rcases h with rfl | rfl | rfl | rfl | rfl
  · exact ⟨[], 97, by decide, by decide⟩
  · exact ⟨[], 59, by decide, by decide⟩
  · exact ⟨[98, 99], 100, by decide, by decide⟩
  · exact ⟨[], 40, by decide, by decide⟩
  · exact ⟨[35, 32], 101, by decide, by decide⟩
theorem goes_ne {c : Nat} (h : c ≠ 32) : (Str.ofString " ").cps.contains c = false := by
  rw [show (Str.ofString " ").cps = #[32] by decide]
  simp [h]
theorem goes_32 : (Str.ofString " ").cps.contains 32 = true := by
  rw [show (Str.ofString " ").cps = #[32] by decide]
  simp
theorem rstrip_ends {x : Str} (h : EndsOk x) : Txt.rstripChars x (Str.ofString " ") = x := by
  obtain ⟨l, c, e, hc⟩ := h
  unfold Txt.rstripChars
  rw [PyProof.Rows.stripBy_eq]
  have h1 : PySem.stripHi (Str.ofString " ").cps.contains true x 0 = x.length := by
    unfold PySem.stripHi
    rw [if_pos rfl, List.drop_zero, e, List.reverse_append]
    show x.length - (List.takeWhile _ (c :: l.reverse)).length = _
    rw [List.takeWhile_cons, goes_ne hc]
    rfl
  show PySem.Builtin.Str.strSub x 0 (PySem.stripHi _ true x 0) = x
  rw [h1]
  exact strSub_whole x
theorem rstrip_space {x : Str} (h : EndsOk x) : Txt.rstripChars (x ++ Str.ofString " ") (Str.ofString " ") = x := by
  obtain ⟨l, c, e, hc⟩ := h
  unfold Txt.rstripChars
  rw [PyProof.Rows.stripBy_eq]
  have e2 : (x ++ Str.ofString " ").cps.toList = l ++ [c] ++ [32] := by
    show (x.cps ++ (Str.ofString " ").cps).toList = _
    rw [Array.toList_append, e]
    rfl
  have hl : (x ++ Str.ofString " ").length = x.length + 1 := by
    show (x.cps ++ (Str.ofString " ").cps).size = x.cps.size + 1
    rw [Array.size_append]; rfl
  have h1 : PySem.stripHi (Str.ofString " ").cps.contains true (x ++ Str.ofString " ") 0 = x.length := by
    unfold PySem.stripHi
    rw [if_pos rfl, List.drop_zero, e2, List.reverse_append, List.reverse_append, hl]
    show x.length + 1 - (List.takeWhile _ (32 :: c :: l.reverse)).length = _
    rw [List.takeWhile_cons, goes_32, if_pos rfl, List.takeWhile_cons, goes_ne hc]
    rfl
  show PySem.Builtin.Str.strSub (x ++ Str.ofString " ") 0 (PySem.stripHi _ true _ 0) = x
  rw [h1]
  show (⟨(x.cps ++ (Str.ofString " ").cps).extract 0 x.cps.size⟩ : Str) = x
  rw [Array.extract_append_left]
  simp
abbrev J1 (l : List Str) : Str := Str.join (Str.ofString " ") l
abbrev J2 (l : List Str) : Str := Str.join (Str.ofString " ; ") l
theorem sep_semi : Str.ofString " ; " = Str.ofString " " ++ Str.ofString ";" ++ Str.ofString " " := by decide
theorem J1_snoc {l : List Str} (h : l ≠ []) (a : Str) : J1 (l ++ [a]) = J1 l ++ Str.ofString " " ++ a := by
  show Str.join _ _ = _
  rw [PyProof.Rows.FinIter.join_snoc, if_neg h]
theorem J2_snoc {l : List Str} (h : l ≠ []) (a : Str) : J2 (l ++ [a]) = J2 l ++ Str.ofString " ; " ++ a := by
  show Str.join _ _ = _
  rw [PyProof.Rows.FinIter.join_snoc, if_neg h]
/-- the codes of the parts, joined -/
theorem joined (q : Nat → Bool) (f : Nat → Str) (hf : ∀ i, q i = true → f i = Str.ofString ";") : ∀ n, (∀ ns ∈ (partsU q n).dropLast, ns ≠ []) →
    J2 ((partsU q n).map fun ns => J1 (ns.map f)) = if (partsU q n).getLast? = some [] ∧ 0 < n then J1 ((List.range n).map f) ++ Str.ofString " " else J1 ((List.range n).map f)
  | 0 => fun _ => rfl
  | n + 1 => fun h => by
    have hne := partsU_ne q n
    obtain ⟨c, hc⟩ : ∃ c, (partsU q n).getLast? = some c := ⟨_, List.getLast?_eq_some_getLast (fun e => by rw [e] at hne; simp at hne)⟩
    have hdl := dl_last hc
    have e0 : (List.range (n + 1)).map f = (List.range n).map f ++ [f n] := by rw [List.range_succ, List.map_append]; rfl
    by_cases hq : q n = true
    · have e1 : partsU q (n + 1) = partsU q n ++ [[]] := by rw [partsU, if_pos hq]
      rw [e1, List.dropLast_concat] at h
      have hcn : c ≠ [] := h c (List.mem_of_getLast? hc)
      have ih := joined q f hf n (fun ns hns => h ns ((List.dropLast_sublist _).subset hns))
      rw [if_neg (fun hh => hcn (Option.some.inj (hc.symm.trans hh.1)))] at ih
      have hn0 : 0 < n := by
        rcases Nat.eq_zero_or_pos n with h0 | h0
        · subst h0
          simp [partsU] at hc
          exact absurd hc hcn
        · exact h0
      have hr : (List.range n).map f ≠ [] := fun e => by
        have := congrArg List.length e
        simp at this; omega
      rw [e1, List.map_append, List.getLast?_append]
      show J2 (_ ++ [J1 []]) = _
      rw [J2_snoc (fun e => by have := congrArg List.length e; simp at this; rw [this] at hne; simp at hne), ih, if_pos ⟨rfl, Nat.succ_pos n⟩, e0, J1_snoc hr, hf n hq, sep_semi]
      show J1 _ ++ (Str.ofString " " ++ Str.ofString ";" ++ Str.ofString " ") ++ Str.ofString "" = _
      rw [s_nil]
      simp only [s_assoc]
    · have e1 : partsU q (n + 1) = (partsU q n).dropLast ++ [c ++ [n]] := by rw [partsU, if_neg hq, hc]; rfl
      rw [e1, List.dropLast_concat] at h
      have ih := joined q f hf n h
      have e2 : (partsU q n).map (fun ns => J1 (ns.map f)) = ((partsU q n).dropLast).map (fun ns => J1 (ns.map f)) ++ [J1 (c.map f)] := by
        conv => lhs; rw [hdl]
        rw [List.map_append]; rfl
      rw [e2] at ih
      have hlast : ¬ ((partsU q (n + 1)).getLast? = some [] ∧ 0 < n + 1) := fun hh => by
        rw [e1] at hh
        simp at hh
      rw [if_neg hlast, e1, List.map_append, e0]
      show J2 (_ ++ [J1 ((c ++ [n]).map f)]) = _
      rw [List.map_append]
      show J2 (_ ++ [J1 (c.map f ++ [f n])]) = _
      cases c with
      | nil =>
        rcases Nat.eq_zero_or_pos n with h0 | h0
        · subst h0
          simp [partsU, Str.join, J1, J2]
        · have hr : (List.range n).map f ≠ [] := fun e => by
            have := congrArg List.length e
            simp at this; omega
          rw [if_pos ⟨hc, h0⟩] at ih
          have hdn : ((partsU q n).dropLast).map (fun ns => J1 (ns.map f)) ≠ [] := fun e => by
            have h1 := congrArg List.length e
            simp at h1
            have h2 := partsU_length q n
            have h3 := (partsU_PP q n).new [] hc rfl
            rcases h3 with h3 | h3
            · omega
            · have : n - 1 ∈ (List.range n).filter q := List.mem_filter.mpr ⟨List.mem_range.mpr (by omega), h3⟩
              have := List.length_pos_of_mem this
              omega
          rw [J2_snoc hdn] at ih ⊢
          rw [J1_snoc hr]
          show J2 _ ++ Str.ofString " ; " ++ f n = _
          have ih' : J2 ((partsU q n).dropLast.map fun ns => J1 (ns.map f)) ++ Str.ofString " ; " = J1 ((List.range n).map f) ++ Str.ofString " " := by
            have := ih
            rw [show J1 (([] : List Nat).map f) = Str.ofString "" from rfl, s_nil] at this
            exact this
          rw [ih']
      | cons a r =>
        rw [if_neg (fun hh => by rw [hc] at hh; simp at hh)] at ih
        have hn0 : 0 < n := by
          rcases Nat.eq_zero_or_pos n with h0 | h0
          · subst h0
            simp [partsU] at hc
          · exact h0
        have hr : (List.range n).map f ≠ [] := fun e => by
          have := congrArg List.length e
          simp at this; omega
        rw [J1_snoc (show (a :: r).map f ≠ [] by simp), J1_snoc hr]
        by_cases hd : ((partsU q n).dropLast).map (fun ns => J1 (ns.map f)) = []
        · rw [hd] at ih ⊢
          show J1 _ ++ Str.ofString " " ++ f n = _
          have ih' : J1 ((a :: r).map f) = J1 ((List.range n).map f) := ih
          rw [ih']
        · rw [J2_snoc hd] at ih ⊢
          rw [← ih]
          simp only [s_assoc]
theorem ends_row {f : Nat → Str} (hf : ∀ i, EndsOk (f i)) : ∀ n, 0 < n → EndsOk (J1 ((List.range n).map f))
  | 0, h => absurd h (Nat.lt_irrefl _)
  | n + 1, _ => by
    rw [List.range_succ, List.map_append]
    show EndsOk (J1 (_ ++ [f n]))
    rcases Nat.eq_zero_or_pos n with h0 | h0
    · subst h0; exact hf 0
    · rw [J1_snoc (fun e => by have := congrArg List.length e; simp at this; omega)]
      exact (hf n).pre _
theorem pure_law {q : Nat → Bool} {f : Nat → Str} {n : Nat} (hf : ∀ i, q i = true → f i = Str.ofString ";") (he : ∀ i, EndsOk (f i)) (hn : 0 < n) (h : ∀ ns ∈ (partsU q n).dropLast, ns ≠ []) (pre : Str) :
    Txt.rstripChars (pre ++ J2 ((partsU q n).map fun ns => J1 (ns.map f))) (Str.ofString " ") = pre ++ J1 ((List.range n).map f) := by
  have e := (ends_row he n hn).pre pre
  rw [joined q f hf n h]
  split
  · rw [← s_assoc]; exact rstrip_space e
  · exact rstrip_ends e
end Mine
end
section
open PySem PySem.W PyProof.Rows PySem.Spec PySem.Calls
namespace Mine
def cdOf {P : Params} (ts : List (Tk P)) (dep : Int) (ns : List Nat) : Str := Txt.mul (Str.ofString "") dep ++ Txt.join (Str.ofString " ") ((mtsOf ts ns).map fun t => t.val)
def fv {P : Params} (ts : List (Tk P)) (i : Nat) : Str := match ts[i]? with | some t => t.val | none => Str.ofString "a"
section
variable {P : Params} {ts : List (Tk P)}
theorem fv_semi (i : Nat) (h : semiAt ts i = true) : fv ts i = Str.ofString ";" := by
  unfold semiAt at h
  unfold fv
  cases e : ts[i]? with
  | none => rw [e] at h; cases h
  | some t => rw [e] at h; simpa using h
theorem fv_ends (hok : ∀ t ∈ ts, okV t.val) (i : Nat) : EndsOk (fv ts i) := by
  unfold fv
  cases e : ts[i]? with
  | none => exact endsOk_val (.inl rfl)
  | some t => exact endsOk_val (hok t (List.mem_of_getElem? e))
theorem fv_row : (List.range ts.length).map (fv ts) = ts.map fun t => t.val := by
  apply List.ext_getElem?
  intro i
  rw [List.getElem?_map, List.getElem?_map]
  by_cases hi : i < ts.length
  · rw [List.getElem?_range hi, List.getElem?_eq_getElem hi]
    simp [fv, hi]
  · rw [List.getElem?_eq_none (by simp; omega), List.getElem?_eq_none (by omega)]; rfl
theorem mul_nil {dep : Int} (h0 : 0 ≤ dep) (h1 : dep ≤ 3) : Txt.mul (Str.ofString "") dep = Str.ofString "" := by
  have : dep = 0 ∨ dep = 1 ∨ dep = 2 ∨ dep = 3 := by omega
  rcases this with rfl | rfl | rfl | rfl <;> decide +kernel
theorem cdOf_eq {dep : Int} (h0 : 0 ≤ dep) (h1 : dep ≤ 3) {ns : List Nat} (h : ∀ n ∈ ns, n < ts.length) : cdOf ts dep ns = J1 (ns.map (fv ts)) := by
  unfold cdOf
  rw [mul_nil h0 h1, nil_s, txt_join, ← mts_map (ts := ts) (fun t => t.val) (fv ts) (fun n t e => by simp [fv, e]) h]
theorem parts_el (q : Nat → Bool) (n : Nat) {ns : List Nat} (h : ns ∈ partsU q n) : ∀ m ∈ ns, m < n := fun m hm => ((partsU_PP q n).el ns h m hm).1
/-- the codes, as the law joins them -/
theorem codes_eq {dep : Int} (h0 : 0 ≤ dep) (h1 : dep ≤ 3) : (dueU (semiAt ts) ts.length).map (cdOf ts dep) = (dueU (semiAt ts) ts.length).map fun ns => J1 (ns.map (fv ts)) :=
  List.map_congr_left fun ns h => cdOf_eq h0 h1 (due_el h)
theorem codes_all {c : List Nat} (hc : (partsU (semiAt ts) ts.length).getLast? = some c) :
    ((dueU (semiAt ts) ts.length).map fun ns => J1 (ns.map (fv ts))) ++ (if c = [] then [Str.ofString ""] else []) = (partsU (semiAt ts) ts.length).map fun ns => J1 (ns.map (fv ts)) := by
  by_cases h : c = []
  · subst h
    rw [if_pos rfl, dueU_nil hc rfl]
    conv => rhs; rw [dl_last hc]
    rw [List.map_append]
    rfl
  · rw [if_neg h, List.append_nil, dueU_cons hc (by cases c with | nil => exact absurd rfl h | cons _ _ => rfl)]
theorem J1_len (hn : ts.length ≤ 8) {ns : List Nat} (h : ∀ n ∈ ns, n < ts.length) (h8 : ns.length ≤ 8) : (J1 (ns.map (fv ts))).length ≤ 100 := by
  rw [mts_map (ts := ts) (fun t => t.val) (fv ts) (fun n t e => by simp [fv, e]) h]
  have h1 := StrLaws.join_length_le (Str.ofString " ") ((mtsOf ts ns).map fun t => t.val)
  have h2 := sum_vals (mtsOf ts ns)
  have e : (Str.ofString " ").length = 1 := by decide
  rw [e, List.length_map] at h1
  rw [mts_len h] at h1 h2
  show (Str.join _ _).length ≤ _
  omega
theorem row_len (hn : ts.length ≤ 8) : (J1 ((List.range ts.length).map (fv ts))).length ≤ 100 := by
  rw [fv_row]
  have h1 := StrLaws.join_length_le (Str.ofString " ") (ts.map fun t => t.val)
  have h2 := sum_vals ts
  have e : (Str.ofString " ").length = 1 := by decide
  rw [e, List.length_map] at h1
  show (Str.join _ _).length ≤ _
  omega
theorem sum_le_of {l : List Str} {B : Nat} (h : ∀ x ∈ l, x.length ≤ B) : (l.map (·.length)).sum ≤ B * l.length := by
  induction l with
  | nil => simp
  | cons a r ih =>
    have h1 := h a (by simp)
    have h2 := ih fun x hx => h x (by simp [hx])
    simp only [List.map_cons, List.sum_cons, List.length_cons, Nat.mul_add, Nat.mul_one]
    omega
theorem codes_sum (hn : ts.length ≤ 8) : (((partsU (semiAt ts) ts.length).map fun ns => J1 (ns.map (fv ts))).map (·.length)).sum + ((partsU (semiAt ts) ts.length).map fun ns => J1 (ns.map (fv ts))).length * (Str.ofString " ; ").length ≤ 16777216 := by
  have h1 := sum_le_of (l := (partsU (semiAt ts) ts.length).map fun ns => J1 (ns.map (fv ts))) (B := 100) (fun x hx => by
    obtain ⟨ns, hns, rfl⟩ := List.mem_map.mp hx
    exact J1_len hn (parts_el _ _ hns) (by have := partsU_each (semiAt ts) ts.length ns hns; omega))
  have h2 := partsU_len (semiAt ts) ts.length
  have e : (Str.ofString " ; ").length = 3 := by decide
  rw [List.length_map] at h1 ⊢
  rw [e]
  omega
theorem s_len (a b : Str) : (a ++ b).length = a.length + b.length := by
  show (a.cps ++ b.cps).size = _
  rw [Array.size_append]; rfl
theorem codes_len (hn : ts.length ≤ 8) (h : ∀ ns ∈ (partsU (semiAt ts) ts.length).dropLast, ns ≠ []) : (J2 ((partsU (semiAt ts) ts.length).map fun ns => J1 (ns.map (fv ts)))).length ≤ 200 := by
  rw [joined (semiAt ts) (fv ts) fv_semi ts.length h]
  have := row_len hn
  split
  · rw [s_len]
    have e : (Str.ofString " ").length = 1 := by decide
    omega
  · omega
end
end Mine
end
section
open PySem PySem.W PyProof.Rows PySem.Spec PySem.Calls
namespace Mine
local macro_rules | `(tactic| k_room) => `(tactic| (simp only [depth_under_make, depth_under_kw, depth_in1, depth_deeper, depth_caller, ktrTop]; omega))
local macro_rules | `(tactic| k_mem) => `(tactic| first | assumption | (refine List.mem_append_left _ ?_; assumption))
local macro_rules | `(tactic| walk_at "call builtin:len") => `(tactic| (k_here; (with_reducible show wpAny _ _ (call (Value.builtin _) [Value.ref _]) _ _ _); k_dflt (refine' len_mem ?N ?h ?n ?z ?_; (case N => k_asm); (case h => k_mem); (case n => with_reducible assumption); (case z => omega))))
local macro_rules | `(tactic| walk_at "subscriptTail Name Name ref int") => `(tactic| (k_here; (with_reducible show wpAny _ _ (subscriptTail _ _ (Value.ref _) (Value.int _ _)) _ _ _); k_dflt (refine' item_mem ?N ?h ?z ?y ?x ?_ ?s ?g; (case N => k_asm); (case h => k_mem); (case z => omega); (case y => omega); (case x => assumption); (case s => with_unfolding_all rfl); (case g => (intro _; with_unfolding_all rfl)))))
local macro_rules | `(tactic| walk_at "subscriptTail Name BinOp ref int") => `(tactic| (k_here; (with_reducible show wpAny _ _ (subscriptTail _ _ (Value.ref _) (Value.int _ _)) _ _ _); k_dflt (refine' item_mem ?N ?h ?z ?y ?x ?_ ?s ?g; (case N => k_asm); (case h => k_mem); (case z => omega); (case y => omega); (case x => assumption); (case s => with_unfolding_all rfl); (case g => (intro _; with_unfolding_all rfl)))))
local macro_rules | `(tactic| walk_at "truthy ref") => `(tactic| (k_here; k_dflt (refine' truthy_mem ?N ?h ?n ?z ?b ?_; (case N => k_asm); (case h => k_mem); (case n => with_reducible assumption); (case z => omega); (case b => assumption))))
local macro_rules | `(tactic| walk_at "setAttr ref") => `(tactic| (k_here; (with_reducible show wpAny _ _ (setAttr (Value.ref _) (Str.ofString "previous_token") _) _ _ _); k_dflt (refine' set_prev ?F ?X ?N ?m ?U ?_; (case F => k_asm); (case X => k_asm); (case N => k_asm); (case m => k_mem); (case U => k_upd)); intro h' F' N'; (try k_sweep)))
local macro_rules | `(tactic| walk_at "setAttr ref") => `(tactic| (k_here; (with_reducible show wpAny _ _ (setAttr (Value.ref _) (Str.ofString "next_token") _) _ _ _); k_dflt (refine' set_next ?F ?X ?N ?m ?U ?_; (case F => k_asm); (case X => k_asm); (case N => k_asm); (case m => k_mem); (case U => k_upd)); intro h' F' N'; (try k_sweep)))
local macro_rules | `(tactic| walk_at "getAttr ref") => `(tactic| (k_here; k_dflt (refine' get_own ?k1 ?k2 ?k3 ?k4 ?k5 ?k6 ?k7 ?k8 ?k9 ?_; (case k1 => k_asm); (case k2 => k_asm); (case k3 => k_inst); (case k4 => k_is); (case k5 => k_is); (case k6 => k_is); (case k7 => k_is); (case k8 => assumption); (case k9 => k_handed); k_whole)))
local macro_rules | `(tactic| walk_at "call ref") => `(tactic| (k_here; k_dflt (first
  | (refine' call_cls ?k1 ?k2 ?k3 ?k4 ?k5 ?k6 ?_; (case k1 => k_asm); (case k2 => k_asm); (case k3 => k_asm); (case k4 => k_is); (case k5 => k_is); (case k6 => k_is); k_whole; intro x' d' h' F' N' l1 l2; (try k_lt l1); (try k_lt2 l2); (try k_sweep); k_enter)
  | (refine' call_meth ?k1 ?k2 ?_; (case k1 => k_asm); (case k2 => k_mem); k_whole; k_enter)
  | (refine wpAny_call ?_; k_enter))))
theorem fill9 {w : World} {h₀ : Heap} (X : (hd.heap_39 w.params).In h₀) : (hd.heap_39 w.params).In h₀ ∧ PySem.Challenge.rw_bu5043_01 = PySem.Challenge.rw_bu5043_01 := by
  k_fill
  exact ⟨X, rfl⟩
local macro_rules | `(tactic| walk_at "call builtin:str.join") => `(tactic| (k_here; (with_reducible show wpAny _ _ (call (Value.builtin "str.join") [Value.str _ _, Value.ref _]) _ _ _); k_dflt (refine' join_gen' ?F ?N ?G ?l ?k ?X ?t ?o ?n ?_; (case t => assumption); (case F => k_asm); (case N => k_asm); (case G => assumption); (case l => assumption); (case k => assumption); (case X => assumption); (case o => assumption); (case n => assumption))))
local macro_rules | `(tactic| walk_at "binaryOp Add str str") => `(tactic| (k_here; (with_reducible show wpAny _ _ (binaryOp Operator.Add (Value.str _ _) (Value.str _ _)) _ _ _); (refine' add_str' ?h1 ?h2 ?_; (case h1 => assumption); (case h2 => assumption)); intro _ _))
theorem ascode_c {w : World} {p : Program} {loose : List Str} {mean : ExcName → Option Value} {mg mb : Str → Option Value}
    (dp un : Nat) (gd : Option (List Code)) (cn : Str) (nm : List (Str × NameKind)) (ig ic : Bool) (mr : List (Str × Const)) (a : Addr) (ccd : Value) (cl : List (Str × Addr)) (outer : List Env) (A₀ : Around) (base h₀ : Heap) (L : Addr) (m : Str → Option Value) (s : Shared)
    (Q E : Value → Shared → Prop) (k : Nat) (x : Ln w.params) (ts : List (Tk w.params)) (pv nx : Nat → Value) (news : Led)
    (B : Below A₀ base outer h₀) (F : Fr h₀ L s.heap m) (X : (hd.heap_39 w.params).In h₀)
    (N : News h₀ L s.heap news) (T : Top p loose mean mg mb h₀) 
    (hx : ∀ q ∈ x.led, q ∈ news) (hl : (x.l, W.listOf (ts.map fun t => Value.ref t.a).toArray k) ∈ news) (hti : TIn ts pv nx news) (ps : Array Value) (hP : (69, tabO ps) ∈ news) (hps : GTab ⟨50, 30, 50, 65⟩ ps)
    (hn : ts.length ≤ 8) (hg : AllBare s.gens) (p0 : 0 ≤ x.dep) (p1 : x.dep ≤ 3)
    (hd' : dp + 6 < recursionLimit) (hu : un + 64 < cLine)
    (hret : ∀ s' ps' t, GTab ⟨50, 30, 50, 65⟩ ps' → Fr h₀ L s'.heap m → News h₀ L s'.heap ((69, tabO ps') :: offs news [69]) → AllBare s'.gens → s'.os = s.os → Q (.str (Txt.mul (Str.ofString "  ") x.dep ++ Txt.join (Str.ofString " ") (ts.map fun t => t.val)) t) s') :
    wpAny (model pr w) (ktrTop dp un gd cn ⟨.function, nm, ig, ic, mr⟩ L a ccd cl outer) (call (.ref 74) [.ref x.a]) Q E s := by
  k_with_none
  w_top off
  have hvl : (ts.map fun t => Value.ref t.a).length = ts.length := List.length_map _
  have m1 : (x.a, instObj 132 x.d) ∈ news := hx _ (by simp [Ln.led])
  have m2 : (x.d, dictOf x.es x.cnt) ∈ news := hx _ (by simp [Ln.led])
  have g1 := x.gdep
  have g2 := x.gtok
  have g3 := x.gdis
  have hjn : ts.length ≤ 1000 := by omega
  have htx : ((List.range ts.length).map fun j => (ts[j]?).elim (Str.ofString "") fun t => t.val) = ts.map fun t => t.val := map_elim ts (fun t => t.val) (Str.ofString "")
  have hjo := join_vals_ok ts hn
  have hL1 := join_vals_len ts hn
  have hL2 := mul_len2 p1
  k_with "eval GeneratorExp" => refine stop_here ?_
  k_steps
  refine ⟨?_⟩
  refine gen_start ?_ rfl (by simp only [depth_deeper, ktrTop]; omega) rfl rfl (by decide) rfl rfl rfl (fun _ => rfl)
  k_steps
  with_reducible rename News _ _ _ _ => hN
  with_reducible rename Fr _ _ _ _ => hF
  refine gen_list (Fv := fun j v => ∃ u, v = .str ((ts[j]?).elim (Str.ofString "") fun t => t.val) u) hF hN (by assumption) hg hl hP hps (fun h ps hk hp ht => code_AsCode (Frag.In.keeps (by assumption) hk) hp ht) ?_ ?_ rfl rfl
  · intro C code A' E' i v t m₂ hA hv hns hm hk
    rw [List.getElem?_map] at hv
    obtain ⟨tk, hi, rfl⟩ := Option.map_eq_some_iff.mp hv
    obtain ⟨X2, at2⟩ := gen_tok_at hF hN (by assumption) hP hti hk
    obtain ⟨e1, e2⟩ := at2 i tk hi
    refine elt_val rfl rfl rfl hns hm X2 e1 e2 ⟨⟨tk.vt, ?_⟩, _, _, rfl, fun _ _ e => e⟩
    rw [hi]
    rfl
  · rintro a K ps' ⟨h5, gs5, d5, tk5, os5⟩ hps' F5 N5 G5 os5 hLK hK X5
    clear hN hF
    rw [hvl] at X5
    k_steps
    exact hret _ ps' _ hps' (by assumption) (by assumption) (by assumption) (by first | assumption | simp_all)
theorem ascode0_c {w : World} {p : Program} {loose : List Str} {mean : ExcName → Option Value} {mg mb : Str → Option Value}
    (dp un : Nat) (gd : Option (List Code)) (cn : Str) (nm : List (Str × NameKind)) (ig ic : Bool) (mr : List (Str × Const)) (a : Addr) (ccd : Value) (cl : List (Str × Addr)) (outer : List Env) (A₀ : Around) (base h₀ : Heap) (L : Addr) (m : Str → Option Value) (s : Shared)
    (Q E : Value → Shared → Prop) (k : Nat) (x : Ln w.params) (ts : List (Tk w.params)) (pv nx : Nat → Value) (news : Led) (t0 : Tok)
    (B : Below A₀ base outer h₀) (F : Fr h₀ L s.heap m) (X : (hd.heap_39 w.params).In h₀)
    (N : News h₀ L s.heap news) (T : Top p loose mean mg mb h₀) 
    (hx : ∀ q ∈ x.led, q ∈ news) (hl : (x.l, W.listOf (ts.map fun t => Value.ref t.a).toArray k) ∈ news) (hti : TIn ts pv nx news) (ps : Array Value) (hP : (69, tabO ps) ∈ news) (hps : GTab ⟨50, 30, 50, 65⟩ ps)
    (hn : ts.length ≤ 8) (hg : AllBare s.gens) (p0 : 0 ≤ x.dep) (p1 : x.dep ≤ 3)
    (hd' : dp + 6 < recursionLimit) (hu : un + 64 < cLine)
    (hret : ∀ s' ps' t, GTab ⟨50, 30, 50, 65⟩ ps' → Fr h₀ L s'.heap m → News h₀ L s'.heap ((69, tabO ps') :: offs news [69]) → AllBare s'.gens → s'.os = s.os → Q (.str (Txt.mul (Str.ofString "") x.dep ++ Txt.join (Str.ofString " ") (ts.map fun t => t.val)) t) s') :
    wpAny (model pr w) (ktrTop dp un gd cn ⟨.function, nm, ig, ic, mr⟩ L a ccd cl outer) (call (.ref 74) [.ref x.a, .int 0 t0]) Q E s := by
  k_with_none
  w_top off
  have hvl : (ts.map fun t => Value.ref t.a).length = ts.length := List.length_map _
  have m1 : (x.a, instObj 132 x.d) ∈ news := hx _ (by simp [Ln.led])
  have m2 : (x.d, dictOf x.es x.cnt) ∈ news := hx _ (by simp [Ln.led])
  have g1 := x.gdep
  have g2 := x.gtok
  have g3 := x.gdis
  have hjn : ts.length ≤ 1000 := by omega
  have htx : ((List.range ts.length).map fun j => (ts[j]?).elim (Str.ofString "") fun t => t.val) = ts.map fun t => t.val := map_elim ts (fun t => t.val) (Str.ofString "")
  have hjo := join_vals_ok ts hn
  have hL1 := join_vals_len ts hn
  have hL2 : (Txt.mul (Str.ofString "") x.dep).length ≤ 1000 := by
    have := len_mul_leN (x := Str.ofString "") (n := x.dep) (L := 0) (N := 3) (by decide) (by omega)
    omega
  k_with "eval GeneratorExp" => refine stop_here ?_
  k_steps
  refine ⟨?_⟩
  refine gen_start ?_ rfl (by simp only [depth_deeper, ktrTop]; omega) rfl rfl (by decide) rfl rfl rfl (fun _ => rfl)
  k_steps
  with_reducible rename News _ _ _ _ => hN
  with_reducible rename Fr _ _ _ _ => hF
  refine gen_list (Fv := fun j v => ∃ u, v = .str ((ts[j]?).elim (Str.ofString "") fun t => t.val) u) hF hN (by assumption) hg hl hP hps (fun h ps hk hp ht => code_AsCode (Frag.In.keeps (by assumption) hk) hp ht) ?_ ?_ rfl rfl
  · intro C code A' E' i v t m₂ hA hv hns hm hk
    rw [List.getElem?_map] at hv
    obtain ⟨tk, hi, rfl⟩ := Option.map_eq_some_iff.mp hv
    obtain ⟨X2, at2⟩ := gen_tok_at hF hN (by assumption) hP hti hk
    obtain ⟨e1, e2⟩ := at2 i tk hi
    refine elt_val rfl rfl rfl hns hm X2 e1 e2 ⟨⟨tk.vt, ?_⟩, _, _, rfl, fun _ _ e => e⟩
    rw [hi]
    rfl
  · rintro a K ps' ⟨h5, gs5, d5, tk5, os5⟩ hps' F5 N5 G5 os5 hLK hK X5
    clear hN hF
    rw [hvl] at X5
    k_steps
    exact hret _ ps' _ hps' (by assumption) (by assumption) (by assumption) (by first | assumption | simp_all)
end Mine
end
section
open PySem PySem.W PyProof.Rows PySem.Spec PySem.Calls
namespace Mine
local macro_rules | `(tactic| k_room) => `(tactic| (simp only [depth_under_make, depth_under_kw, depth_in1, depth_deeper, depth_caller, ktrTop]; omega))
local macro_rules | `(tactic| k_mem) => `(tactic| first | assumption | (refine List.mem_append_left _ ?_; assumption))
local macro_rules | `(tactic| walk_at "call builtin:len") => `(tactic| (k_here; (with_reducible show wpAny _ _ (call (Value.builtin _) [Value.ref _]) _ _ _); k_dflt (refine' len_mem ?N ?h ?n ?z ?_; (case N => k_asm); (case h => k_mem); (case n => with_reducible assumption); (case z => omega))))
local macro_rules | `(tactic| walk_at "subscriptTail Name Name ref int") => `(tactic| (k_here; (with_reducible show wpAny _ _ (subscriptTail _ _ (Value.ref _) (Value.int _ _)) _ _ _); k_dflt (refine' item_mem ?N ?h ?z ?y ?x ?_ ?s ?g; (case N => k_asm); (case h => k_mem); (case z => omega); (case y => omega); (case x => assumption); (case s => with_unfolding_all rfl); (case g => (intro _; with_unfolding_all rfl)))))
local macro_rules | `(tactic| walk_at "subscriptTail Name BinOp ref int") => `(tactic| (k_here; (with_reducible show wpAny _ _ (subscriptTail _ _ (Value.ref _) (Value.int _ _)) _ _ _); k_dflt (refine' item_mem ?N ?h ?z ?y ?x ?_ ?s ?g; (case N => k_asm); (case h => k_mem); (case z => omega); (case y => omega); (case x => assumption); (case s => with_unfolding_all rfl); (case g => (intro _; with_unfolding_all rfl)))))
local macro_rules | `(tactic| walk_at "truthy ref") => `(tactic| (k_here; k_dflt (refine' truthy_mem ?N ?h ?n ?z ?b ?_; (case N => k_asm); (case h => k_mem); (case n => with_reducible assumption); (case z => omega); (case b => assumption))))
local macro_rules | `(tactic| walk_at "setAttr ref") => `(tactic| (k_here; (with_reducible show wpAny _ _ (setAttr (Value.ref _) (Str.ofString "previous_token") _) _ _ _); k_dflt (refine' set_prev ?F ?X ?N ?m ?U ?_; (case F => k_asm); (case X => k_asm); (case N => k_asm); (case m => k_mem); (case U => k_upd)); intro h' F' N'; (try k_sweep)))
local macro_rules | `(tactic| walk_at "setAttr ref") => `(tactic| (k_here; (with_reducible show wpAny _ _ (setAttr (Value.ref _) (Str.ofString "next_token") _) _ _ _); k_dflt (refine' set_next ?F ?X ?N ?m ?U ?_; (case F => k_asm); (case X => k_asm); (case N => k_asm); (case m => k_mem); (case U => k_upd)); intro h' F' N'; (try k_sweep)))
local macro_rules | `(tactic| walk_at "getAttr ref") => `(tactic| (k_here; k_dflt (refine' get_own ?k1 ?k2 ?k3 ?k4 ?k5 ?k6 ?k7 ?k8 ?k9 ?_; (case k1 => k_asm); (case k2 => k_asm); (case k3 => k_inst); (case k4 => k_is); (case k5 => k_is); (case k6 => k_is); (case k7 => k_is); (case k8 => assumption); (case k9 => k_handed); k_whole)))
local macro_rules | `(tactic| walk_at "call ref") => `(tactic| (k_here; k_dflt (first
  | (refine' call_cls ?k1 ?k2 ?k3 ?k4 ?k5 ?k6 ?_; (case k1 => k_asm); (case k2 => k_asm); (case k3 => k_asm); (case k4 => k_is); (case k5 => k_is); (case k6 => k_is); k_whole; intro x' d' h' F' N' l1 l2; (try k_lt l1); (try k_lt2 l2); (try k_sweep); k_enter)
  | (refine' call_meth ?k1 ?k2 ?_; (case k1 => k_asm); (case k2 => k_mem); k_whole; k_enter)
  | (refine wpAny_call ?_; k_enter))))
theorem fill10 {w : World} {h₀ : Heap} (X : (hd.heap_39 w.params).In h₀) : (hd.heap_39 w.params).In h₀ ∧ PySem.Challenge.rw_bu5043_01 = PySem.Challenge.rw_bu5043_01 := by
  k_fill
  exact ⟨X, rfl⟩
local macro_rules | `(tactic| walk_at "call builtin:any") => `(tactic| (k_here; (with_reducible show wpAny _ _ (call (Value.builtin "any") [Value.ref _]) _ _ _); k_dflt (refine' any_gen ?F ?N ?G ?l ?k ?X ?_; (case F => k_asm); (case N => k_asm); (case G => assumption); (case l => assumption); (case k => assumption); (case X => assumption))))
theorem semi_c {w : World} {p : Program} {loose : List Str} {mean : ExcName → Option Value} {mg mb : Str → Option Value}
    (dp un : Nat) (gd : Option (List Code)) (cn : Str) (nm : List (Str × NameKind)) (ig ic : Bool) (mr : List (Str × Const)) (a : Addr) (ccd : Value) (cl : List (Str × Addr)) (outer : List Env) (A₀ : Around) (base h₀ : Heap) (L : Addr) (m : Str → Option Value) (s : Shared)
    (R : Result → Shared → Prop) (k : Nat) (x : Ln w.params) (ts : List (Tk w.params)) (pv nx : Nat → Value) (news : Led) (ps : Array Value)
    (B : Below A₀ base outer h₀) (F : Fr h₀ L s.heap m) (X : (hd.heap_39 w.params).In h₀)
    (N : News h₀ L s.heap news) (T : Top p loose mean mg mb h₀) 
    (hx : ∀ q ∈ x.led, q ∈ news) (hl : (x.l, W.listOf (ts.map fun t => Value.ref t.a).toArray k) ∈ news) (hti : TIn ts pv nx news)
    (hP : (123, tabO ps) ∈ news) (hps : GTab ⟨78, 19, 78, 61⟩ ps)
    (hn : ts.length ≤ 8) (hg : AllBare s.gens)
    (hd' : dp + 6 < recursionLimit) (hu : un + 64 < cLine)
    (hret : ∀ s' ps', GTab ⟨78, 19, 78, 61⟩ ps' → Fr h₀ L s'.heap m → News h₀ L s'.heap ((123, tabO ps') :: offs news [123]) → AllBare s'.gens → s'.os = s.os → R (.ok (.ret (.bool (ts.any fun t => t.val == Str.ofString ";")))) s') :
    codeAny (model pr w) (ktrTop dp un gd cn ⟨.function, nm, ig, ic, mr⟩ L a ccd cl outer) (.call (.ref 128) ⟨[.ref x.a], []⟩) R s := by
  k_with_none
  w_top off
  have hvl : (ts.map fun t => Value.ref t.a).length = ts.length := List.length_map _
  have m1 : (x.a, instObj 132 x.d) ∈ news := hx _ (by simp [Ln.led])
  have m2 : (x.d, dictOf x.es x.cnt) ∈ news := hx _ (by simp [Ln.led])
  have g1 := x.gdep
  have g2 := x.gtok
  have g3 := x.gdis
  k_with "eval GeneratorExp" => refine stop_here ?_
  k_dflt k_enter
  k_steps
  refine ⟨?_⟩
  refine gen_start ?_ rfl (by simp only [depth_deeper, ktrTop]; omega) rfl rfl (by decide) rfl rfl rfl (fun _ => rfl)
  k_steps
  with_reducible rename News _ _ _ _ => hN
  with_reducible rename Fr _ _ _ _ => hF
  refine gen_list (Fv := fun j v => v = .bool ((ts[j]?).elim false fun t => t.val == Str.ofString ";")) hF hN (by assumption) hg hl hP hps (fun h ps hk hp ht => code_has_semicolon (Frag.In.keeps (by assumption) hk) hp ht) ?_ ?_ rfl rfl
  · intro C code A' E' i v t m₂ hA hv hns hm hk
    rw [List.getElem?_map] at hv
    obtain ⟨tk, hi, rfl⟩ := Option.map_eq_some_iff.mp hv
    obtain ⟨X2, at2⟩ := gen_tok_at hF hN (by assumption) hP hti hk
    obtain ⟨e1, e2⟩ := at2 i tk hi
    refine wpAny_Compare1 (elt_val rfl rfl rfl hns hm X2 e1 e2 ?_)
    refine Constant_str ?_
    refine eq_str ⟨?_, _, _, rfl, fun _ _ e => e⟩
    rw [hi]
    rfl
  · rintro a K ps' ⟨h5, gs5, d5, tk5, os5⟩ hps' F5 N5 G5 os5 hLK hK X5
    clear hN hF
    k_steps
    rw [hvl, any_elim ts fun t => t.val == Str.ofString ";"]
    exact hret _ ps' hps' (by assumption) (by assumption) (by assumption) (by first | assumption | simp_all)
end Mine
end
section
open PySem PySem.W PyProof.Rows PySem.Spec PySem.Calls
namespace Mine
local macro_rules | `(tactic| k_room) => `(tactic| (simp only [depth_under_make, depth_under_kw, depth_in1, depth_deeper, depth_caller, ktrTop]; omega))
local macro_rules | `(tactic| k_mem) => `(tactic| first | assumption | (refine List.mem_append_left _ ?_; assumption))
local macro_rules | `(tactic| walk_at "call builtin:len") => `(tactic| (k_here; (with_reducible show wpAny _ _ (call (Value.builtin _) [Value.ref _]) _ _ _); k_dflt (refine' len_mem ?N ?h ?n ?z ?_; (case N => k_asm); (case h => k_mem); (case n => with_reducible assumption); (case z => omega))))
local macro_rules | `(tactic| walk_at "subscriptTail Name Name ref int") => `(tactic| (k_here; (with_reducible show wpAny _ _ (subscriptTail _ _ (Value.ref _) (Value.int _ _)) _ _ _); k_dflt (refine' item_mem ?N ?h ?z ?y ?x ?_ ?s ?g; (case N => k_asm); (case h => k_mem); (case z => omega); (case y => omega); (case x => assumption); (case s => with_unfolding_all rfl); (case g => (intro _; with_unfolding_all rfl)))))
local macro_rules | `(tactic| walk_at "subscriptTail Name BinOp ref int") => `(tactic| (k_here; (with_reducible show wpAny _ _ (subscriptTail _ _ (Value.ref _) (Value.int _ _)) _ _ _); k_dflt (refine' item_mem ?N ?h ?z ?y ?x ?_ ?s ?g; (case N => k_asm); (case h => k_mem); (case z => omega); (case y => omega); (case x => assumption); (case s => with_unfolding_all rfl); (case g => (intro _; with_unfolding_all rfl)))))
local macro_rules | `(tactic| walk_at "truthy ref") => `(tactic| (k_here; k_dflt (refine' truthy_mem ?N ?h ?n ?z ?b ?_; (case N => k_asm); (case h => k_mem); (case n => with_reducible assumption); (case z => omega); (case b => assumption))))
local macro_rules | `(tactic| walk_at "setAttr ref") => `(tactic| (k_here; (with_reducible show wpAny _ _ (setAttr (Value.ref _) (Str.ofString "previous_token") _) _ _ _); k_dflt (refine' set_prev ?F ?X ?N ?m ?U ?_; (case F => k_asm); (case X => k_asm); (case N => k_asm); (case m => k_mem); (case U => k_upd)); intro h' F' N'; (try k_sweep)))
local macro_rules | `(tactic| walk_at "setAttr ref") => `(tactic| (k_here; (with_reducible show wpAny _ _ (setAttr (Value.ref _) (Str.ofString "next_token") _) _ _ _); k_dflt (refine' set_next ?F ?X ?N ?m ?U ?_; (case F => k_asm); (case X => k_asm); (case N => k_asm); (case m => k_mem); (case U => k_upd)); intro h' F' N'; (try k_sweep)))
local macro_rules | `(tactic| walk_at "getAttr ref") => `(tactic| (k_here; k_dflt (refine' get_own ?k1 ?k2 ?k3 ?k4 ?k5 ?k6 ?k7 ?k8 ?k9 ?_; (case k1 => k_asm); (case k2 => k_asm); (case k3 => k_inst); (case k4 => k_is); (case k5 => k_is); (case k6 => k_is); (case k7 => k_is); (case k8 => assumption); (case k9 => k_handed); k_whole)))
local macro_rules | `(tactic| walk_at "call ref") => `(tactic| (k_here; k_dflt (first
  | (refine' call_cls ?k1 ?k2 ?k3 ?k4 ?k5 ?k6 ?_; (case k1 => k_asm); (case k2 => k_asm); (case k3 => k_asm); (case k4 => k_is); (case k5 => k_is); (case k6 => k_is); k_whole; intro x' d' h' F' N' l1 l2; (try k_lt l1); (try k_lt2 l2); (try k_sweep); k_enter)
  | (refine' call_meth ?k1 ?k2 ?_; (case k1 => k_asm); (case k2 => k_mem); k_whole; k_enter)
  | (refine wpAny_call ?_; k_enter))))

theorem fill12 {w : World} {h₀ : Heap} (X : (hd.heap_39 w.params).In h₀) : (hd.heap_39 w.params).In h₀ ∧ PySem.Challenge.rw_bu5043_01 = PySem.Challenge.rw_bu5043_01 := by
  k_fill
  exact ⟨X, rfl⟩

local macro_rules | `(tactic| walk_at "subscriptTail Name UnaryOp ref int") => `(tactic| (k_here; (with_reducible show wpAny _ _ (subscriptTail _ _ (Value.ref _) (Value.int _ _)) _ _ _); k_dflt (with_unfolding_all refine' last_mem ?N ?h ?x ?_ ?s ?g; (case N => k_asm); (case h => k_mem); (case x => assumption); (case s => with_unfolding_all rfl); (case g => (intro _; with_unfolding_all rfl)))))


theorem parts_c {w : World} {p : Program} {loose : List Str} {mean : ExcName → Option Value} {mg mb : Str → Option Value}
    (dp un : Nat) (gd : Option (List Code)) (cn : Str) (nm : List (Str × NameKind)) (ig ic : Bool) (mr : List (Str × Const)) (a : Addr) (ccd : Value) (cl : List (Str × Addr)) (outer : List Env) (A₀ : Around) (base h₀ : Heap) (L : Addr) (m : Str → Option Value) (s : Shared)
    (Q E : Value → Shared → Prop) (k : Nat) (l : Addr) (ts : List (Tk w.params)) (news : Led)
    (B : Below A₀ base outer h₀) (F : Fr h₀ L s.heap m) (X : (hd.heap_39 w.params).In h₀)
    (N : News h₀ L s.heap news) (T : Top p loose mean mg mb h₀) 
    (hl : (l, W.listOf (ts.map fun t => Value.str t.val t.vt).toArray k) ∈ news)
    (hn : ts.length ≤ 8)
    (hd' : dp + 6 < recursionLimit) (hu : un + 64 < cLine)
    (hret : ∀ (pl : Addr) (as : List Addr) led' h' tk', Fr h₀ L h' m → News h₀ L h' led' → (∀ q ∈ news, q ∈ led') → PartsIn led' pl as (partsU (semiAt ts) ts.length) → Q (.ref pl) { s with heap := h', toks := tk' }) :
    wpAny (model pr w) (ktrTop dp un gd cn ⟨.function, nm, ig, ic, mr⟩ L a ccd cl outer) (call (.ref 511) [.ref l]) Q E s := by
  k_with_none
  w_top off
  have hvl : (ts.map fun t => Value.str t.val t.vt).length = ts.length := List.length_map _
  have hn8 : Stop (ts.length ≤ 8) := ⟨hn⟩
  replace hn : ts.length ≤ 1000 := by omega
  k_with "pyIter ref" => refine stop_here ?_
  k_steps
  refine ⟨?_⟩
  with_reducible rename IsRange _ _ _ _ _ _ _ _ => hR
  with_reducible rename Fr _ _ _ _ => hF
  with_reducible rename News _ _ _ _ => hN
  obtain ⟨pl, al, rfl, rfl⟩ := names2 hN
  have hl1 : ∀ q ∈ news, @LT.lt Nat _ q.1 al := by assumption
  have hl2 : @LT.lt Nat _ al pl := (by assumption : @LT.lt Nat _ al pl ∧ AllLt pl news).1
  have e0 : PartsIn ((pl, W.listOf #[Value.ref al] 0) :: (al, W.listOf #[] 0) :: news) pl [al] (partsU (semiAt ts) 0) := ⟨⟨0, by simp⟩, rfl, by
    intro j a ns h1 h2
    cases j with
    | zero =>
      simp [partsU] at h1 h2
      subst h1; subst h2
      exact ⟨[], 0, by simp, rfl, fun j n h => by simp at h⟩
    | succ j => simp at h1, by simp; exact Nat.ne_of_gt hl2⟩
  refine rg_loop (σ := List Addr) (fun _ => []) [] (fun i as nx => PartsIn nx pl as (partsU (semiAt ts) i) ∧ ∀ q ∈ news, q ∈ nx ∧ q.1 ∉ pl :: as) [al] rfl hR (by omega) hF hN (fun _ h => nomatch h) ⟨e0, ?_⟩ ?_ ?_
  · intro q hq
    have := hl1 q hq
    refine ⟨.tail _ (.tail _ hq), fun e => ?_⟩
    rcases List.mem_cons.mp e with e | e
    · rw [e] at this; omega
    · rw [List.mem_singleton.mp e] at this; omega
  · rintro i as tk₀ u nx h tk own hi hoff ⟨hP, hO⟩ F₁ N₁
    obtain ⟨t, hti⟩ : ∃ t, ts[i]? = some t := ⟨_, List.getElem?_eq_getElem hi⟩
    have hx : (ts.map fun t => Value.str t.val t.vt)[((i : Int)).toNat]? = some (.str t.val t.vt) := by simp [hti]
    have hsa : semiAt ts i = (t.val == Str.ofString ";") := by simp [semiAt, hti]
    obtain ⟨kp, hpm⟩ := hP.mem
    have hal := hP.len
    have hpn := partsU_ne (semiAt ts) i
    have hpn2 := partsU_len (semiAt ts) i
    have hll := hO _ hl
    by_cases hb : (t.val == Str.ofString ";") = true
    · have hml : (l, W.listOf (ts.map fun t => Value.str t.val t.vt).toArray k) ∈ offs nx [pl] := mem_offs hll.1 (fun e => hll.2 (by rw [List.mem_singleton.mp e]; exact .head _))
      have N2' := focus1 N₁ hpm
      have ho : OwnOff (offs nx [pl] ++ own) [pl] := off1 (offs_off _ _) hoff hpm
      clear N₁ hN
      k_steps
      with_reducible rename News _ _ _ _ => hN
      obtain ⟨D, rfl⟩ := names1 hN
      have hlt : ∀ q ∈ (pl, W.listOf (as.map Value.ref).toArray kp) :: (offs nx [pl] ++ own), @LT.lt Nat _ q.1 D := by first | assumption | exact tb_ltOf (by assumption)
      have hlx : ∀ q ∈ nx, @LT.lt Nat _ q.1 D := fun q hq => by
        by_cases e : q.1 = pl
        · rw [e]; exact hlt _ (.head _)
        · exact hlt _ (.tail _ (List.mem_append_left _ (mem_offs hq (fun h => e (List.mem_singleton.mp h)))))
      have hDp : D ≠ pl := fun e => Nat.lt_irrefl _ (e ▸ hlt _ (.head _))
      have hDn : D ∉ pl :: as := fun h => by
        rcases List.mem_cons.mp h with h | h
        · exact hDp h
        · obtain ⟨j, hj, e⟩ := List.getElem_of_mem h
          obtain ⟨vs, k, hm, _⟩ := hP.each j D _ (by rw [List.getElem?_eq_getElem hj, e]) (List.getElem?_eq_getElem (by omega))
          exact Nat.lt_irrefl _ (hlx _ hm)
      rw [List.push_toArray] at hN
      refine InvEndG.intro (nx := (D, W.listOf #[] 0) :: (pl, W.listOf ((as.map Value.ref) ++ [Value.ref D]).toArray (kp + 1)) :: offs nx [pl]) (by assumption) hN ⟨as ++ [D], ⟨?_, ?_⟩, (fun _ h => nomatch h), by intro z h1 _ h3; simp_all [mapS, kstB]⟩ ?_ (fun p hp => ?_) (fun p hp => .tail _ (.tail _ (List.mem_append_right _ hp)))
      · have e : partsU (semiAt ts) (i + 1) = partsU (semiAt ts) i ++ [[]] := by rw [partsU, hsa, if_pos hb]
        rw [e]
        exact hP.semi hDn (.tail _ (.head _)) (.head _) fun q hq e => .tail _ (.tail _ (mem_offs hq (fun h => e (List.mem_singleton.mp h))))
      · intro q hq
        have h1 := hO q hq
        have h2 : q.1 ≠ D := fun e => Nat.lt_irrefl _ (e ▸ hlx q h1.1)
        refine ⟨.tail _ (.tail _ (mem_offs h1.1 (fun h => h1.2 (by rw [List.mem_singleton.mp h]; exact .head _)))), fun h => ?_⟩
        rw [← List.cons_append] at h
        rcases List.mem_append.mp h with h | h
        · exact h1.2 h
        · exact h2 (List.mem_singleton.mp h)
      · intro p hp b hb e
        simp only [List.map_cons, List.mem_cons] at hb
        rcases hb with rfl | rfl | hb
        · exact Nat.lt_irrefl _ (e ▸ hlt p (.tail _ (List.mem_append_right _ hp)))
        · exact hoff p hp _ (List.mem_map.mpr ⟨_, hpm, rfl⟩) e
        · obtain ⟨q, hq, rfl⟩ := List.mem_map.mp hb
          exact hoff p hp _ (List.mem_map.mpr ⟨q, offs_sub hq, rfl⟩) e
      · rcases List.mem_cons.mp hp with rfl | hp
        · exact .head _
        rcases List.mem_cons.mp hp with rfl | hp
        · exact .tail _ (.head _)
        · exact .tail _ (.tail _ (List.mem_append_left _ hp))
    · replace hb : (t.val == Str.ofString ";") = false := by simpa using hb
      obtain ⟨ac, hac⟩ : ∃ ac, as.getLast? = some ac := ⟨_, List.getLast?_eq_some_getLast (fun e => by subst e; simp at hal; omega)⟩
      obtain ⟨ns, hns⟩ : ∃ ns, (partsU (semiAt ts) i).getLast? = some ns := ⟨_, List.getLast?_eq_some_getLast (fun e => by simp [e] at hpn)⟩
      have hac' : (as.map Value.ref).getLast? = some (.ref ac) := by rw [List.getLast?_map, hac]; rfl
      obtain ⟨vs, kv, hvm, hvi⟩ := hP.each (as.length - 1) ac ns (by rw [← List.getLast?_eq_getElem?]; exact hac) (by rw [hal, ← List.getLast?_eq_getElem?]; exact hns)
      have hacm : ac ∈ as := List.mem_of_getLast? hac
      have hne : ac ≠ pl := fun e => (List.nodup_cons.mp hP.nodup).1 (e ▸ hacm)
      have hml : (l, W.listOf (ts.map fun t => Value.str t.val t.vt).toArray k) ∈ offs nx [ac] := mem_offs hll.1 (fun e => hll.2 (by rw [List.mem_singleton.mp e]; exact .tail _ hacm))
      have hmp : (pl, W.listOf (as.map Value.ref).toArray kp) ∈ offs nx [ac] := mem_offs hpm (fun e => hne (List.mem_singleton.mp e).symm)
      have hvs : vs.length ≤ 1000 := by rw [hvi.1]; exact Nat.le_trans (partsU_last_len (semiAt ts) i ns hns) (by omega)
      have N2' := focus1 N₁ hvm
      have ho : OwnOff (offs nx [ac] ++ own) [ac] := off1 (offs_off _ _) hoff hvm
      clear N₁ hN
      k_steps
      with_reducible rename News _ _ _ _ => hN
      rw [List.push_toArray] at hN
      have e : partsU (semiAt ts) (i + 1) = (partsU (semiAt ts) i).dropLast ++ [((partsU (semiAt ts) i).getLast?.getD []) ++ [i]] := by rw [partsU, hsa, if_neg (by rw [hb]; decide)]
      refine InvEndG.intro (nx := (ac, W.listOf (vs ++ [Value.int (i : Int) tk₀]).toArray (kv + 1)) :: offs nx [ac]) (by assumption) hN ⟨as, ⟨?_, ?_⟩, (fun _ h => nomatch h), by intro z h1 _ h3; simp_all [mapS, kstB]⟩ ?_ (fun p hp => ?_) (fun p hp => .tail _ (List.mem_append_right _ hp))
      · rw [e]
        exact hP.app hac hns hvi (.head _) fun q hq e => .tail _ (mem_offs hq (fun h => e (List.mem_singleton.mp h)))
      · intro q hq
        have h1 := hO q hq
        exact ⟨.tail _ (mem_offs h1.1 (fun h => h1.2 (by rw [List.mem_singleton.mp h]; exact .tail _ hacm))), h1.2⟩
      · intro p hp b hb e
        simp only [List.map_cons, List.mem_cons] at hb
        rcases hb with rfl | hb
        · exact hoff p hp _ (List.mem_map.mpr ⟨_, hvm, rfl⟩) e
        · obtain ⟨q, hq, rfl⟩ := List.mem_map.mp hb
          exact hoff p hp _ (List.mem_map.mpr ⟨q, offs_sub hq, rfl⟩) e
      · rcases List.mem_cons.mp hp with rfl | hp
        · exact .head _
        · exact .tail _ (List.mem_append_left _ hp)
  · rintro as u nx h tk ⟨hP, hO⟩ F₁ N₁
    k_steps
    exact hret pl as nx _ _ (by assumption) (by assumption) (fun q hq => (hO q hq).1) hP
end Mine
end
section
open PySem PySem.W PyProof.Rows PySem.Spec PySem.Calls
namespace Mine
local macro_rules | `(tactic| k_room) => `(tactic| (simp only [depth_under_make, depth_under_kw, depth_in1, depth_deeper, depth_caller, ktrTop]; omega))
local macro_rules | `(tactic| k_mem) => `(tactic| first | assumption | (refine List.mem_append_left _ ?_; assumption))
local macro_rules | `(tactic| walk_at "call builtin:len") => `(tactic| (k_here; (with_reducible show wpAny _ _ (call (Value.builtin _) [Value.ref _]) _ _ _); k_dflt (refine' len_mem ?N ?h ?n ?z ?_; (case N => k_asm); (case h => k_mem); (case n => with_reducible assumption); (case z => omega))))
local macro_rules | `(tactic| walk_at "subscriptTail Name Name ref int") => `(tactic| (k_here; (with_reducible show wpAny _ _ (subscriptTail _ _ (Value.ref _) (Value.int _ _)) _ _ _); k_dflt (refine' item_mem ?N ?h ?z ?y ?x ?_ ?s ?g; (case N => k_asm); (case h => k_mem); (case z => omega); (case y => omega); (case x => assumption); (case s => with_unfolding_all rfl); (case g => (intro _; with_unfolding_all rfl)))))
local macro_rules | `(tactic| walk_at "subscriptTail Name BinOp ref int") => `(tactic| (k_here; (with_reducible show wpAny _ _ (subscriptTail _ _ (Value.ref _) (Value.int _ _)) _ _ _); k_dflt (refine' item_mem ?N ?h ?z ?y ?x ?_ ?s ?g; (case N => k_asm); (case h => k_mem); (case z => omega); (case y => omega); (case x => assumption); (case s => with_unfolding_all rfl); (case g => (intro _; with_unfolding_all rfl)))))
local macro_rules | `(tactic| walk_at "truthy ref") => `(tactic| (k_here; k_dflt (refine' truthy_mem ?N ?h ?n ?z ?b ?_; (case N => k_asm); (case h => k_mem); (case n => with_reducible assumption); (case z => omega); (case b => assumption))))
local macro_rules | `(tactic| walk_at "getAttr ref") => `(tactic| (k_here; k_dflt (refine' get_own ?k1 ?k2 ?k3 ?k4 ?k5 ?k6 ?k7 ?k8 ?k9 ?_; (case k1 => k_asm); (case k2 => k_asm); (case k3 => k_inst); (case k4 => k_is); (case k5 => k_is); (case k6 => k_is); (case k7 => k_is); (case k8 => assumption); (case k9 => k_handed); k_whole)))
local macro_rules | `(tactic| walk_at "call ref") => `(tactic| (k_here; k_dflt (first
  | (refine' call_cls ?k1 ?k2 ?k3 ?k4 ?k5 ?k6 ?_; (case k1 => k_asm); (case k2 => k_asm); (case k3 => k_asm); (case k4 => k_is); (case k5 => k_is); (case k6 => k_is); k_whole; intro x' d' h' F' N' l1 l2; (try k_lt l1); (try k_lt2 l2); (try k_sweep); k_enter)
  | (refine' call_meth ?k1 ?k2 ?_; (case k1 => k_asm); (case k2 => k_mem); k_whole; k_enter)
  | (refine wpAny_call ?_; k_enter))))

local macro_rules | `(tactic| walk_at "setAttr ref") => `(tactic| (k_here; (with_reducible show wpAny _ _ (setAttr (Value.ref _) (Str.ofString "previous_token") _) _ _ _); k_dflt (refine' same_prev ?F ?X ?N ?m ?d ?_; (case F => k_asm); (case X => k_asm); (case N => k_asm); (case m => k_mem); (case d => k_mem)); intro h' F' N'; (try k_sweep)))
local macro_rules | `(tactic| walk_at "setAttr ref") => `(tactic| (k_here; (with_reducible show wpAny _ _ (setAttr (Value.ref _) (Str.ofString "next_token") _) _ _ _); k_dflt (refine' same_next ?F ?X ?N ?m ?d ?_; (case F => k_asm); (case X => k_asm); (case N => k_asm); (case m => k_mem); (case d => k_mem)); intro h' F' N'; (try k_sweep)))
local macro_rules | `(tactic| walk_at "subscriptTail Name UnaryOp ref int") => `(tactic| (k_here; (with_reducible show wpAny _ _ (subscriptTail _ _ (Value.ref _) (Value.int _ _)) _ _ _); k_dflt (with_unfolding_all refine' last_mem ?N ?h ?x ?_ ?s ?g; (case N => k_asm); (case h => k_mem); (case x => assumption); (case s => with_unfolding_all rfl); (case g => (intro _; with_unfolding_all rfl)))))
theorem fill13a {w : World} {h₀ : Heap} (X : (hd.heap_39 w.params).In h₀) : (hd.heap_39 w.params).In h₀ ∧ PySem.Challenge.rw_bu5043_01 = PySem.Challenge.rw_bu5043_01 := by
  k_fill
  exact ⟨X, rfl⟩

theorem append_c {w : World} {p : Program} {loose : List Str} {mean : ExcName → Option Value} {mg mb : Str → Option Value}
    (dp un : Nat) (gd : Option (List Code)) (cn : Str) (nm : List (Str × NameKind)) (ig ic : Bool) (mr : List (Str × Const)) (a : Addr) (ccd : Value) (cl : List (Str × Addr)) (outer : List Env) (A₀ : Around) (base h₀ : Heap) (L : Addr) (m : Str → Option Value) (s : Shared)
    (Q E : Value → Shared → Prop) (k : Nat) (x : Ln w.params) (t : Tk w.params) (vs : List Value) (tp tn : Value) (news : Led)
    (B : Below A₀ base outer h₀) (F : Fr h₀ L s.heap m) (X : (hd.heap_39 w.params).In h₀)
    (N : News h₀ L s.heap ((x.l, W.listOf vs.toArray k) :: news)) (T : Top p loose mean mg mb h₀) 
    (ho : OwnOff news [x.l])
    (hx1 : (x.a, instObj 132 x.d) ∈ news) (hx2 : (x.d, dictOf x.es x.cnt) ∈ news)
    (ht1 : (t.a, instObj 486 t.d) ∈ news) (ht2 : (t.d, dictOf (t.es tp tn) t.cnt) ∈ news)
    (hlast : vs = [] ∨ ∃ (u : Tk w.params) (up : Value), vs.getLast? = some (.ref u.a) ∧ tp = .ref u.a ∧ (u.a, instObj 486 u.d) ∈ news ∧ (u.d, dictOf (u.es up (.ref t.a)) u.cnt) ∈ news)
    (hn : vs.length ≤ 1000)
    (hd' : dp + 7 < recursionLimit) (hu : un + 70 < cLine)
    (hret : ∀ h' tk', Fr h₀ L h' m → News h₀ L h' ((x.l, W.listOf (vs ++ [Value.ref t.a]).toArray (k + 1)) :: news) → Q .none { s with heap := h', toks := tk' }) :
    wpAny (model pr w) (ktrTop dp un gd cn ⟨.function, nm, ig, ic, mr⟩ L a ccd cl outer) (call (.ref 50) [.ref x.a, .ref t.a]) Q E s := by
  k_with_none
  w_top off
  have hvl : vs.length = vs.length := rfl
  have g1 := x.gtok
  rcases hlast with rfl | ⟨u, up, hl, rfl, hu1, hu2⟩
  · have hvb : (!([] : List Value).isEmpty) = false := rfl
    k_steps
    exact hret _ _ (by assumption) (by assumption)
  · have hvb : (!vs.isEmpty) = true := by cases vs with | nil => simp at hl | cons _ _ => rfl
    k_steps
    with_reducible rename News _ _ _ _ => hN
    rw [List.push_toArray] at hN
    exact hret _ _ (by assumption) hN
end Mine
end
section
open PySem PySem.W PyProof.Rows PySem.Spec PySem.Calls
namespace Mine
local macro_rules | `(tactic| k_room) => `(tactic| (simp only [depth_under_make, depth_under_kw, depth_in1, depth_deeper, depth_caller, ktrTop]; omega))
local macro_rules | `(tactic| k_mem) => `(tactic| first | assumption | (refine List.mem_append_left _ ?_; assumption))
local macro_rules | `(tactic| walk_at "call builtin:len") => `(tactic| (k_here; (with_reducible show wpAny _ _ (call (Value.builtin _) [Value.ref _]) _ _ _); k_dflt (refine' len_mem ?N ?h ?n ?z ?_; (case N => k_asm); (case h => k_mem); (case n => with_reducible assumption); (case z => omega))))
local macro_rules | `(tactic| walk_at "subscriptTail Name Name ref int") => `(tactic| (k_here; (with_reducible show wpAny _ _ (subscriptTail _ _ (Value.ref _) (Value.int _ _)) _ _ _); k_dflt (refine' item_mem ?N ?h ?z ?y ?x ?_ ?s ?g; (case N => k_asm); (case h => k_mem); (case z => omega); (case y => omega); (case x => assumption); (case s => with_unfolding_all rfl); (case g => (intro _; with_unfolding_all rfl)))))
local macro_rules | `(tactic| walk_at "subscriptTail Name BinOp ref int") => `(tactic| (k_here; (with_reducible show wpAny _ _ (subscriptTail _ _ (Value.ref _) (Value.int _ _)) _ _ _); k_dflt (refine' item_mem ?N ?h ?z ?y ?x ?_ ?s ?g; (case N => k_asm); (case h => k_mem); (case z => omega); (case y => omega); (case x => assumption); (case s => with_unfolding_all rfl); (case g => (intro _; with_unfolding_all rfl)))))
local macro_rules | `(tactic| walk_at "truthy ref") => `(tactic| (k_here; k_dflt (refine' truthy_mem ?N ?h ?n ?z ?b ?_; (case N => k_asm); (case h => k_mem); (case n => with_reducible assumption); (case z => omega); (case b => assumption))))
local macro_rules | `(tactic| walk_at "getAttr ref") => `(tactic| (k_here; k_dflt (refine' get_own ?k1 ?k2 ?k3 ?k4 ?k5 ?k6 ?k7 ?k8 ?k9 ?_; (case k1 => k_asm); (case k2 => k_asm); (case k3 => k_inst); (case k4 => k_is); (case k5 => k_is); (case k6 => k_is); (case k7 => k_is); (case k8 => assumption); (case k9 => k_handed); k_whole)))
local macro_rules | `(tactic| walk_at "call ref") => `(tactic| (k_here; k_dflt (first
  | (refine' call_cls ?k1 ?k2 ?k3 ?k4 ?k5 ?k6 ?_; (case k1 => k_asm); (case k2 => k_asm); (case k3 => k_asm); (case k4 => k_is); (case k5 => k_is); (case k6 => k_is); k_whole; intro x' d' h' F' N' l1 l2; (try k_lt l1); (try k_lt2 l2); (try k_sweep); k_enter)
  | (refine' call_meth ?k1 ?k2 ?_; (case k1 => k_asm); (case k2 => k_mem); k_whole; k_enter)
  | (refine wpAny_call ?_; k_enter))))

theorem fill13b {w : World} {h₀ : Heap} (X : (hd.heap_39 w.params).In h₀) : (hd.heap_39 w.params).In h₀ ∧ PySem.Challenge.rw_bu5043_01 = PySem.Challenge.rw_bu5043_01 := by
  k_fill
  exact ⟨X, rfl⟩
theorem ln_end00 {P : Params} {h₀ h' : Heap} {L xa da l : Addr} {m : Str → Option Value} {s : Shared} {Q : Value → Shared → Prop} {tk' : Nat} {dep : Int} {dt t1 t2 t3 : Tok} {c k : Nat} {news : Led} (F : Fr h₀ L h' m)
    (N : News h₀ L h' ((l, W.listOf #[] k) :: (xa, instObj 132 da) :: (da, dictOf (lnEs P t1 t2 t3 l dep dt) c) :: news))
    (hlt : ∀ q ∈ (xa, instObj 132 da) :: (da, dictOf (lnEs P t1 t2 t3 l dep dt) c) :: news, @LT.lt Nat _ q.1 l)
    (hda : ∀ q ∈ news, @LT.lt Nat _ q.1 da) (hdx : @LT.lt Nat _ da xa)
    (hret : ∀ (x : Ln P) (k' : Nat) h' tk', x.dep = dep → Fr h₀ L h' m → News h₀ L h' ((x.l, W.listOf #[] k') :: (x.a, instObj 132 x.d) :: (x.d, dictOf x.es x.cnt) :: news) → (∀ q ∈ news, @LT.lt Nat _ q.1 x.l) → x.a ≠ x.l → x.d ≠ x.l → (∀ q ∈ news, q.1 ≠ x.a ∧ q.1 ≠ x.d) → Q (.ref x.a) { s with heap := h', toks := tk' }) :
    Q (.ref xa) { s with heap := h', toks := tk' } :=
  hret (mkLn P xa da l dep dt t1 t2 t3 c) k h' tk' rfl F N (fun q hq => hlt q (.tail _ (.tail _ hq))) (Nat.ne_of_lt (hlt (xa, instObj 132 da) (.head _))) (Nat.ne_of_lt (hlt (da, _) (.tail _ (.head _)))) fun q hq => ⟨Nat.ne_of_lt (Nat.lt_trans (hda q hq) hdx), Nat.ne_of_lt (hda q hq)⟩

theorem ctor0_c {w : World} {p : Program} {loose : List Str} {mean : ExcName → Option Value} {mg mb : Str → Option Value}
    (dp un : Nat) (gd : Option (List Code)) (cn : Str) (nm : List (Str × NameKind)) (ig ic : Bool) (mr : List (Str × Const)) (a : Addr) (ccd : Value) (cl : List (Str × Addr)) (outer : List Env) (A₀ : Around) (base h₀ : Heap) (L : Addr) (m : Str → Option Value) (s : Shared)
    (Q E : Value → Shared → Prop) (dep : Int) (td : Tok) (news : Led)
    (B : Below A₀ base outer h₀) (F : Fr h₀ L s.heap m) (X : (hd.heap_39 w.params).In h₀)
    (N : News h₀ L s.heap news) (T : Top p loose mean mg mb h₀) 
    (hd' : dp + 7 < recursionLimit) (hu : un + 70 < cLine)
    (hret : ∀ (x : Ln w.params) (k' : Nat) h' tk', x.dep = dep → Fr h₀ L h' m → News h₀ L h' ((x.l, W.listOf #[] k') :: (x.a, instObj 132 x.d) :: (x.d, dictOf x.es x.cnt) :: news) → (∀ q ∈ news, @LT.lt Nat _ q.1 x.l) → x.a ≠ x.l → x.d ≠ x.l → (∀ q ∈ news, q.1 ≠ x.a ∧ q.1 ≠ x.d) → Q (.ref x.a) { s with heap := h', toks := tk' }) :
    wpAny (model pr w) (ktrTop dp un gd cn ⟨.function, nm, ig, ic, mr⟩ L a ccd cl outer) (call (.ref 132) [.int dep td]) Q E s := by
  k_with_none
  w_top off
  k_steps
  exact ln_end00 (P := w.params) (by assumption) (by assumption) (by first | assumption | exact tb_ltOf (by assumption)) (by first | assumption | exact tb_ltOf (by assumption)) (by omega) hret
end Mine
end
section
open PySem PySem.W PyProof.Rows PySem.Spec PySem.Calls
namespace Mine
local macro_rules | `(tactic| k_room) => `(tactic| (simp only [depth_under_make, depth_under_kw, depth_in1, depth_deeper, depth_caller, ktrTop]; omega))
local macro_rules | `(tactic| k_mem) => `(tactic| first | assumption | (refine List.mem_append_left _ ?_; assumption))
local macro_rules | `(tactic| walk_at "call builtin:len") => `(tactic| (k_here; (with_reducible show wpAny _ _ (call (Value.builtin _) [Value.ref _]) _ _ _); k_dflt (refine' len_mem ?N ?h ?n ?z ?_; (case N => k_asm); (case h => k_mem); (case n => with_reducible assumption); (case z => omega))))
local macro_rules | `(tactic| walk_at "subscriptTail Name Name ref int") => `(tactic| (k_here; (with_reducible show wpAny _ _ (subscriptTail _ _ (Value.ref _) (Value.int _ _)) _ _ _); k_dflt (refine' item_mem ?N ?h ?z ?y ?x ?_ ?s ?g; (case N => k_asm); (case h => k_mem); (case z => omega); (case y => omega); (case x => assumption); (case s => with_unfolding_all rfl); (case g => (intro _; with_unfolding_all rfl)))))
local macro_rules | `(tactic| walk_at "subscriptTail Name BinOp ref int") => `(tactic| (k_here; (with_reducible show wpAny _ _ (subscriptTail _ _ (Value.ref _) (Value.int _ _)) _ _ _); k_dflt (refine' item_mem ?N ?h ?z ?y ?x ?_ ?s ?g; (case N => k_asm); (case h => k_mem); (case z => omega); (case y => omega); (case x => assumption); (case s => with_unfolding_all rfl); (case g => (intro _; with_unfolding_all rfl)))))
local macro_rules | `(tactic| walk_at "truthy ref") => `(tactic| (k_here; k_dflt (refine' truthy_mem ?N ?h ?n ?z ?b ?_; (case N => k_asm); (case h => k_mem); (case n => with_reducible assumption); (case z => omega); (case b => assumption))))
local macro_rules | `(tactic| walk_at "getAttr ref") => `(tactic| (k_here; k_dflt (refine' get_own ?k1 ?k2 ?k3 ?k4 ?k5 ?k6 ?k7 ?k8 ?k9 ?_; (case k1 => k_asm); (case k2 => k_asm); (case k3 => k_inst); (case k4 => k_is); (case k5 => k_is); (case k6 => k_is); (case k7 => k_is); (case k8 => assumption); (case k9 => k_handed); k_whole)))
local macro_rules | `(tactic| walk_at "call ref") => `(tactic| (k_here; k_dflt (first
  | (refine' call_cls ?k1 ?k2 ?k3 ?k4 ?k5 ?k6 ?_; (case k1 => k_asm); (case k2 => k_asm); (case k3 => k_asm); (case k4 => k_is); (case k5 => k_is); (case k6 => k_is); k_whole; intro x' d' h' F' N' l1 l2; (try k_lt l1); (try k_lt2 l2); (try k_sweep); k_enter)
  | (refine' call_meth ?k1 ?k2 ?_; (case k1 => k_asm); (case k2 => k_mem); k_whole; k_enter)
  | (refine wpAny_call ?_; k_enter))))

local macro_rules | `(tactic| walk_at "getAttr ref") => `(tactic| (k_here; (with_reducible show wpAny _ _ (getAttr (Value.ref _) (Str.ofString "has_semicolon") _) _ _ _); k_dflt (refine' get_prop ?k1 ?k2 ?k3 ?k4 ?k5 ?k6 ?k7 ?k8 ?k9 ?_; (case k1 => k_asm); (case k2 => k_asm); (case k3 => k_inst); (case k4 => k_is); (case k5 => k_is); (case k6 => k_is); (case k7 => k_is); (case k8 => k_is); (case k9 => k_is); k_whole; refine stop_here ?_)))
local macro_rules | `(tactic| walk_at "call ref") => `(tactic| (k_here; (with_reducible show wpAny _ _ (call (Value.ref 132) _) _ _ _); refine stop_here ?_))
local macro_rules | `(tactic| walk_at "call ref") => `(tactic| (k_here; (with_reducible show wpAny _ _ (call (Value.ref 50) _) _ _ _); refine stop_here ?_))
local macro_rules | `(tactic| walk_at "getMethod ref") => `(tactic| (k_here; k_dflt (refine' method_inst ?k1 ?k2 ?k3 ?k4 ?k5 ?k6 ?k7 ?_; (case k1 => k_asm); (case k2 => k_asm); (case k3 => k_inst); (case k4 => k_is); (case k5 => k_is); (case k6 => k_is); (case k7 => assumption); k_whole)))
local macro_rules | `(tactic| walk_at "subscriptTail Name Constant ref int") => `(tactic| (k_here; (with_reducible show wpAny _ _ (subscriptTail _ _ (Value.ref _) (Value.int _ _)) _ _ _); k_dflt (with_unfolding_all refine' item0_mem ?N ?h ?x ?_ ?s ?g; (case N => k_asm); (case h => k_mem); (case x => assumption); (case s => with_unfolding_all rfl); (case g => (intro _; with_unfolding_all rfl)))))
local macro_rules | `(tactic| walk_at "subscriptTail Name Constant ref int") => `(tactic| (k_here; (with_reducible show wpAny _ _ (subscriptTail _ _ (Value.ref _) (Value.int _ _)) _ _ _); k_dflt (with_unfolding_all refine' item_out_mem ?A ?N ?h ?x ?_ ?s; (case A => exact rfl); (case N => k_asm); (case h => k_mem); (case x => assumption); (case s => with_unfolding_all rfl)); intro h' tk' e' hx'))
local macro_rules | `(tactic| walk_at "setAttr ref") => `(tactic| (k_here; (with_reducible show wpAny _ _ (setAttr (Value.ref _) (Str.ofString "previous_token") _) _ _ _); k_dflt (refine' upd_prev ?F ?X ?N ?m ?d ?_; (case F => k_asm); (case X => k_asm); (case N => k_asm); (case m => k_mem); (case d => k_mem)); intro h' F' N'; (try k_sweep)))
local macro_rules | `(tactic| walk_at "setAttr ref") => `(tactic| (k_here; (with_reducible show wpAny _ _ (setAttr (Value.ref _) (Str.ofString "next_token") _) _ _ _); k_dflt (refine' upd_next ?F ?X ?N ?m ?d ?_; (case F => k_asm); (case X => k_asm); (case N => k_asm); (case m => k_mem); (case d => k_mem)); intro h' F' N'; (try k_sweep)))
local macro_rules | `(tactic| walk_at "leaving ref") => `(tactic| (k_here; first
  | (refine' leave_newS ?k1 ?k0 ?k2 ?k3 ?_; (case k0 => assumption); (case k2 => assumption); (case k1 => assumption); (case k3 => k_asm); k_whole; intro h' S' R' U'; (try dsimp only at S' R' U' ⊢); clear R')
  | (refine' leave_onSN ?k1 ?k2 ?k3 ?k4 ?_; (case k3 => assumption); (case k2 => assumption); (case k1 => assumption); (case k4 => assumption); k_whole; intro h' S' R' U'; (try dsimp only at S' R' U' ⊢); clear R')))
local macro_rules | `(tactic| walk_at "subscriptTail Name UnaryOp ref int") => `(tactic| (k_here; (with_reducible show wpAny _ _ (subscriptTail _ _ (Value.ref _) (Value.int _ _)) _ _ _); k_dflt (with_unfolding_all refine' last_mem ?N ?h ?x ?_ ?s ?g; (case N => k_asm); (case h => k_mem); (case x => assumption); (case s => with_unfolding_all rfl); (case g => (intro _; with_unfolding_all rfl)))))
theorem fill13 {w : World} {h₀ : Heap} (X : (hd.heap_39 w.params).In h₀) : (hd.heap_39 w.params).In h₀ ∧ PySem.Challenge.rw_bu5043_01 = PySem.Challenge.rw_bu5043_01 := by
  k_fill
  exact ⟨X, rfl⟩

theorem mem_tab {h₀ h : Heap} {L : Addr} {news : Led} {ps ps' : Array Value} (N : News h₀ L h news) (hP : (123, tabO ps) ∈ news) {q : Addr × Obj} (hq : q ∈ news) (hc : q.1 ≠ 123) : q ∈ (123, tabO ps') :: offs news [123] :=
  .tail _ (mem_offs hq fun e => hc (List.mem_singleton.mp e))
theorem tk_cls {P : Params} {t : Tk P} {p n : Value} {q : Addr × Obj} (h : q ∈ t.led p n) : q.2.cls ≠ Value.none := by
  simp only [Tk.led, List.mem_cons, List.not_mem_nil, or_false] at h
  rcases h with rfl | rfl | rfl | rfl <;> (intro e; cases e)

theorem split_c {w : World} {p : Program} {loose : List Str} {mean : ExcName → Option Value} {mg mb : Str → Option Value}
    (dp un : Nat) (gd : Option (List Code)) (cn : Str) (nm : List (Str × NameKind)) (ig ic : Bool) (mr : List (Str × Const)) (a : Addr) (ccd : Value) (cl : List (Str × Addr)) (outer : List Env) (A₀ : Around) (base h₀ : Heap) (L : Addr) (m : Str → Option Value) (s : Shared)
    (Q E : Value → Shared → Prop) (k : Nat) (x : Ln w.params) (ts : List (Tk w.params)) (news : Led) (ps : Array Value)
    (B : Below A₀ base outer h₀) (F : Fr h₀ L s.heap m) (X : (hd.heap_39 w.params).In h₀)
    (N : News h₀ L s.heap news) (T : Top p loose mean mg mb h₀) 
    (hx : ∀ q ∈ x.led, q ∈ news) (hl : (x.l, W.listOf (ts.map fun t => Value.ref t.a).toArray k) ∈ news) (hti : TIn ts (pv0 ts) (nx0 ts) news)
    (hP : (123, tabO ps) ∈ news) (hps : GTab ⟨78, 19, 78, 61⟩ ps)
    (hSep : Sep ts) (hn : ts.length ≤ 8) (hg : AllBare s.gens)
    (hd' : dp + 9 < recursionLimit) (hu : un + 90 < cLine)
    (hretA : ∀ (D : Addr) k' s' news' ps', (ts.any fun t => t.val == Str.ofString ";") = false → GTab ⟨78, 19, 78, 61⟩ ps' → Fr h₀ L s'.heap m → News h₀ L s'.heap news' → (∀ q ∈ news, q.1 ≠ 123 → q ∈ news') → (123, tabO ps') ∈ news' → (D, W.listOf #[Value.ref x.a] k') ∈ news' → AllBare s'.gens → s'.os = s.os → Q (.ref D) s')
    (hretB : ∀ (pl : Addr) (ls : List (Ln w.params)) kk s' news' ps', (ts.any fun t => t.val == Str.ofString ";") = true → (∀ ns ∈ dueU (semiAt ts) ts.length, ns ≠ []) → LinesIn news' ts x.dep pl ls (dueU (semiAt ts) ts.length) → (pl, W.listOf (ls.map fun z => Value.ref z.a).toArray kk) ∈ news' →
      TIn ts (pvK ts (dueU (semiAt ts) ts.length)) (nxK ts (dueU (semiAt ts) ts.length)) news' → (∀ q ∈ news, q.1 ≠ 123 → OffD ts q → q ∈ news') → (123, tabO ps') ∈ news' → GTab ⟨78, 19, 78, 61⟩ ps' → Fr h₀ L s'.heap m → News h₀ L s'.heap news' → AllBare s'.gens → s'.os = s.os → Q (.ref pl) s')
    (hexc : ∀ (e : Addr) (G : Heap) s' news' ps', (ts.any fun t => t.val == Str.ofString ";") = true → (∃ ns ∈ dueU (semiAt ts) ts.length, ns = []) → Fr h₀ L G m → RaisedSN base G (envX cn ⟨.function, nm, ig, ic, mr⟩ L a ccd cl :: outer) e (.type "IndexError") news' s'.heap → G.UpToSlots s'.heap →
      (∀ q ∈ news, q.1 ≠ 123 → OffD ts q → q ∈ news') → (123, tabO ps') ∈ news' → GTab ⟨78, 19, 78, 61⟩ ps' → AllBare s'.gens → s'.os = s.os → E (.ref e) s') :
    wpAny (model pr w) (ktrTop dp un gd cn ⟨.function, nm, ig, ic, mr⟩ L a ccd cl outer) (call (.ref 43) [.ref x.a]) Q E s := by
  k_with_none
  w_top off
  have hvl : (ts.map fun t => Value.ref t.a).length = ts.length := List.length_map _
  have hx1 : (x.a, instObj 132 x.d) ∈ news := hx _ (by simp [Ln.led])
  have hx2 : (x.d, dictOf x.es x.cnt) ∈ news := hx _ (by simp [Ln.led])
  have g1 := x.gtok
  have g2 := x.gdis
  have g3 := x.gdep
  k_steps
  refine ⟨?_⟩
  have hFGs : Stop (Fr h₀ L _ m) := ⟨by assumption⟩
  refine semi_c _ _ _ _ _ _ _ _ _ _ _ _ _ _ _ _ _ _ _ k x ts (pv0 ts) (nx0 ts) news ps (by assumption) (by assumption) (by assumption) (by assumption) (by assumption) hx hl hti hP hps hn hg (by dsimp only [PySem.Around.deeper, PySem.Around.in1, ktrTop]; omega) (by dsimp only [PySem.Around.deeper, PySem.Around.in1, ktrTop]; omega) ?_
  intro s1 ps1 hps1 F1 N1 hg1 hos1
  have hK : ∀ q ∈ news, q.1 ≠ 123 → q ∈ (123, tabO ps1) :: offs news [123] := fun q hq hc => mem_tab N hP hq hc
  refine handed_on rfl ?_
  replace hx1 := hK _ hx1 (ne_of_cls N hx1 hP (by intro e; cases e))
  replace hx2 := hK _ hx2 (ne_of_cls N hx2 hP (by intro e; cases e))
  replace hl := hK _ hl (ne_of_cls N hl hP (by intro e; cases e))
  have htN : (123, tabO ps1) ∈ (123, tabO ps1) :: offs news [123] := .head _
  replace hti : TIn ts (pv0 ts) (nx0 ts) ((123, tabO ps1) :: offs news [123]) := fun i t hi q hq => hK q (hti i t hi q hq) (ne_of_cls N (a := q.1) (o := q.2) (hti i t hi q hq) hP (tk_cls hq))
  have hNs0 : Stop (News _ _ s1.heap ((123, tabO ps1) :: offs news [123])) := ⟨N1⟩
  generalize hN0 : (123, tabO ps1) :: offs news [123] = news0 at *
  cases hsc : (ts.any fun t => t.val == Str.ofString ";") with
  | false =>
    k_steps
    refine hretA _ 0 _ _ ps1 hsc hps1 (by assumption) (by assumption) (fun q hq hc => .tail _ (hK q hq hc)) (.tail _ htN) (.head _) (by assumption) (by assumption)
  | true =>
    k_steps
    refine ⟨?_⟩
    refine ctor0_c _ _ _ _ _ _ _ _ _ _ _ _ _ _ _ _ _ _ _ _ _ _ _ (by assumption) (by assumption) (by assumption) (by assumption) (by assumption) (by dsimp only [PySem.Around.deeper, PySem.Around.in1, ktrTop]; omega) (by dsimp only [PySem.Around.deeper, PySem.Around.in1, ktrTop]; omega) ?_
    intro y k1 h1 tk1 hyd F2 N2 hlt hya hyb hyf
    obtain ⟨pl, rfl⟩ := names1 (by assumption : News _ _ _ ((_, W.listOf #[] 0) :: news0))
    have hplt : ∀ q ∈ news0, @LT.lt Nat _ q.1 pl := by first | assumption | exact tb_ltOf (by assumption)
    k_with "pyIter ref" => refine stop_here ?_
    k_steps
    refine ⟨?_⟩
    with_reducible rename Fr _ _ _ _ => hF
    with_reducible rename News _ _ _ _ => hN
    have hyt : ∀ z ∈ ([] : List (Ln w.params)) ++ [y], ∀ t ∈ ts, z.d ≠ t.d := fun z hz t ht => by
      simp at hz
      obtain ⟨i, hi⟩ := List.mem_iff_getElem?.mp ht
      rw [hz]
      exact fun e => (hyf (t.d, dictOf (t.es (pv0 ts i) (nx0 ts i)) t.cnt) (.tail _ (hti i t hi _ (by simp [Tk.led])))).2 e.symm
    have hylp : pl < y.l := hlt _ (.head _)
    refine ls_loop (σ := Ln w.params × List (Ln w.params)) (fun c => [(Str.ofString "lline", .ref c.1.a)]) [] (fun i c nx => LinesIn nx ts x.dep pl (c.2 ++ [c.1]) (partsU (semiAt ts) i) ∧ (∃ kk, (pl, W.listOf (c.2.map fun z => Value.ref z.a).toArray kk) ∈ nx) ∧ ∀ q ∈ news0, q ∈ nx ∧ q.1 ∉ pl :: (c.2 ++ [c.1]).map (·.l)) (y, []) rfl
      (.tail _ (.tail _ (.tail _ (.tail _ hl)))) hF hN (by simp) ⟨⟨rfl, ?_, by simpa using Nat.ne_of_lt hylp, hyt⟩, ⟨0, by simp⟩, ?_⟩ ?_ ?_
    · intro j z ns h1 h2
      cases j with
      | zero =>
        simp [partsU] at h1 h2
        subst h1; subst h2
        exact ⟨by simp [Ln.led], hyd, k1, by simp⟩
      | succ j => simp at h1
    · intro q hq
      have h1 := hplt q hq
      refine ⟨by simp [hq], fun e => ?_⟩
      simp at e
      rcases e with e | e
      · rw [e] at h1; exact Nat.lt_irrefl _ h1
      · rw [e] at h1; exact Nat.lt_irrefl _ (Nat.lt_trans h1 hylp)
    · rintro i c v u nx h tk own hv hoff hll ⟨hL, ⟨kp, hpm⟩, hO⟩ F₁ N₁
      obtain ⟨cur, ds⟩ := c
      dsimp only at hL hpm hO
      rw [List.getElem?_map] at hv
      obtain ⟨t, hti2, rfl⟩ := Option.map_eq_some_iff.mp hv
      have hsa : semiAt ts i = (t.val == Str.ofString ";") := by simp [semiAt, hti2]
      have hlen := hL.len
      simp at hlen
      have hil := (List.getElem?_eq_some_iff.mp hti2).1
      have hpn := partsU_ne (semiAt ts) i
      have hpn2 := partsU_len (semiAt ts) i
      obtain ⟨cc, hcc⟩ : ∃ ns, (partsU (semiAt ts) i).getLast? = some ns := ⟨_, List.getLast?_eq_some_getLast (fun e => by simp [e] at hpn)⟩
      obtain ⟨hc1, hc2, kc, hcl⟩ := hL.each ds.length cur cc (by simp) (by rw [← hcc, List.getLast?_eq_getElem?]; congr 1; omega)
      have N0 := News.left N₁
      have N0s : Stop (News _ _ h nx) := ⟨N0⟩
      have ht1 : (t.a, instObj 486 t.d) ∈ news0 := hti i t hti2 _ (by simp [Tk.led])
      have ht2 : (t.d, dictOf (t.es (pv0 ts i) (nx0 ts i)) t.cnt) ∈ news0 := hti i t hti2 _ (by simp [Tk.led])
      have ht3 := t.gval (pv0 ts i) (nx0 ts i)
      have hnd := hL.nodup
      cases hb : (t.val == Str.ofString ";") with
      | true =>
        have hm : ∀ q ∈ news0, q ∈ offs nx [pl] := fun q hq => mem_offs (hO q hq).1 (fun e => (hO q hq).2 (by rw [List.mem_singleton.mp e]; exact .head _))
        have ht1' := hm _ ht1
        have ht2' := hm _ ht2
        have hx1' := hm _ hx1
        have hx2' := hm _ hx2
        have N2' := focus1 N₁ hpm
        have ho : OwnOff (offs nx [pl] ++ own) [pl] := off1 (offs_off _ _) hoff hpm
        have hds : ds.length ≤ 1000 := by omega
        clear N₁ hN
        k_steps
        refine ⟨?_⟩
        refine ctor0_c _ _ _ _ _ _ _ _ _ _ _ _ _ _ _ _ _ _ _ _ _ _ _ (by assumption) (by assumption) (by assumption) (by assumption) (by assumption) (by dsimp only [PySem.Around.deeper, PySem.Around.in1, ktrTop]; omega) (by dsimp only [PySem.Around.deeper, PySem.Around.in1, ktrTop]; omega) ?_
        intro y2 k2 h2 tk2 hyd2 F3 N3 hlt2 hya2 hyb2 hyf2
        k_steps
        with_reducible rename News _ _ _ _ => hN
        rw [List.push_toArray] at hN hlt2
        have hlx : ∀ q ∈ nx, @LT.lt Nat _ q.1 y2.l := fun q hq => by
          by_cases e : q.1 = pl
          · rw [e]; exact hlt2 _ (.head _)
          · exact hlt2 _ (.tail _ (List.mem_append_left _ (mem_offs hq (fun h => e (List.mem_singleton.mp h)))))
        have hyn : y2.l ∉ pl :: (ds ++ [cur]).map (·.l) := fun e => by
          rcases List.mem_cons.mp e with e | e
          · exact Nat.lt_irrefl _ (e ▸ hlx _ hpm)
          · obtain ⟨z, hz, e⟩ := List.mem_map.mp e
            obtain ⟨j, hj, rfl⟩ := List.getElem_of_mem hz
            obtain ⟨_, _, kk, hm⟩ := hL.each j _ _ (List.getElem?_eq_getElem hj) (List.getElem?_eq_getElem (by rw [← hL.len]; exact hj))
            exact Nat.lt_irrefl _ (e ▸ hlx _ hm)
        have hyo : ∀ t ∈ ts, y2.d ≠ t.d := fun t ht => by
          obtain ⟨j, hj⟩ := List.mem_iff_getElem?.mp ht
          exact fun e => (hyf2 (t.d, dictOf (t.es (pv0 ts j) (nx0 ts j)) t.cnt) (.tail _ (List.mem_append_left _ (hm _ (hti j t hj _ (by simp [Tk.led])))))).2 e.symm
        have e1 : partsU (semiAt ts) (i + 1) = partsU (semiAt ts) i ++ [[]] := by rw [partsU, hsa, if_pos hb]
        have e2 : (ds.map fun z => Value.ref z.a) ++ [Value.ref cur.a] = (ds ++ [cur]).map fun z => Value.ref z.a := by simp
        rw [e2] at hN hlt2
        refine InvEndG.intro (nx := (y2.l, W.listOf #[] k2) :: (y2.a, instObj 132 y2.d) :: (y2.d, dictOf y2.es y2.cnt) :: (pl, W.listOf ((ds ++ [cur]).map fun z => Value.ref z.a).toArray (kp + 1)) :: offs nx [pl]) (by assumption) hN ⟨?_, (y2, ds ++ [cur]), ⟨?_, ⟨kp + 1, ?_⟩, ?_⟩, ?_, ?_⟩ ?_ (fun p hp => ?_) (fun p hp => ?_)
        · exact .tail _ (.tail _ (.tail _ (.tail _ (hm _ hl))))
        · rw [e1]
          exact hL.semi N0s.out hpm (by simp [Ln.led]) hyd2 (.head _) hyn hyo fun q hq e => .tail _ (.tail _ (.tail _ (.tail _ (mem_offs hq (fun h => e (List.mem_singleton.mp h))))))
        · simp
        · intro q hq
          have h1 := hO q hq
          have h2 : q.1 ≠ y2.l := fun e => Nat.lt_irrefl _ (e ▸ hlx q h1.1)
          refine ⟨.tail _ (.tail _ (.tail _ (.tail _ (hm _ hq)))), fun h => ?_⟩
          rw [List.map_append, ← List.cons_append] at h
          rcases List.mem_append.mp h with h | h
          · exact h1.2 h
          · simp at h; exact h2 h
        · intro p hp
          rw [List.mem_singleton.mp hp]
          exact if_pos rfl
        · intro z h1 h2 h3
          have h4 : z ≠ Str.ofString "lline" := h2 _ (.head _)
          simp [mapS, kstB, h4, h1]
        · intro p hp b hb e
          simp only [List.map_cons, List.mem_cons] at hb
          rcases hb with rfl | rfl | rfl | rfl | hb
          · exact Nat.lt_irrefl _ (e ▸ hlt2 p (.tail _ (List.mem_append_right _ hp)))
          · exact (hyf2 p (.tail _ (List.mem_append_right _ hp))).1 e
          · exact (hyf2 p (.tail _ (List.mem_append_right _ hp))).2 e
          · exact hoff p hp _ (List.mem_map.mpr ⟨_, hpm, rfl⟩) e
          · obtain ⟨q, hq, rfl⟩ := List.mem_map.mp hb
            exact hoff p hp _ (List.mem_map.mpr ⟨q, offs_sub hq, rfl⟩) e
        · simp only [List.mem_cons] at hp ⊢
          rcases hp with hp | hp | hp | hp | hp
          · exact .inl hp
          · exact .inr (.inl hp)
          · exact .inr (.inr (.inl hp))
          · exact .inr (.inr (.inr (.inl hp)))
          · exact .inr (.inr (.inr (.inr (List.mem_append_left _ hp))))
        · exact .tail _ (.tail _ (.tail _ (.tail _ (List.mem_append_right _ hp))))
      | false =>
        have hm : ∀ q ∈ news0, q ∈ offs nx [cur.l] := fun q hq => mem_offs (hO q hq).1 (fun e => (hO q hq).2 (by rw [List.mem_singleton.mp e]; simp))
        have ht1' := hm _ ht1
        have ht2' := hm _ ht2
        have hcm : ∀ q ∈ cur.led, q ∈ offs nx [cur.l] := fun q hq => mem_offs (hc1 q hq) (fun e => inst_ne_list N0 hc1 hcl q hq (List.mem_singleton.mp e))
        have hcm1 : (cur.a, instObj 132 cur.d) ∈ offs nx [cur.l] := hcm _ (by simp [Ln.led])
        have hcm2 : (cur.d, dictOf cur.es cur.cnt) ∈ offs nx [cur.l] := hcm _ (by simp [Ln.led])
        have hcg := cur.gA
        have N2' := focus1 N₁ hcl
        have ho : OwnOff (offs nx [cur.l] ++ own) [cur.l] := off1 (offs_off _ _) hoff hcl
        clear N₁ hN
        k_steps
        refine ⟨?_⟩
        refine append_c _ _ _ _ _ _ _ _ _ _ _ _ _ _ _ _ _ _ _ _ kc cur t (cc.map (tokAt ts)) (pv0 ts i) (nx0 ts i) (offs nx [cur.l] ++ own) (by assumption) (by assumption) (by assumption) (by assumption) (by assumption) ho (List.mem_append_left _ hcm1) (List.mem_append_left _ hcm2) (List.mem_append_left _ ht1') (List.mem_append_left _ ht2') ?_ ?_ (by dsimp only [PySem.Around.deeper, PySem.Around.in1, ktrTop]; omega) (by dsimp only [PySem.Around.deeper, PySem.Around.in1, ktrTop]; omega) ?_
        · cases hcl2 : cc.getLast? with
          | none => left; rw [List.getLast?_eq_none_iff] at hcl2; rw [hcl2]; rfl
          | some j =>
            have hj := (partsU_PP (semiAt ts) i).cur cc j hcc hcl2
            subst hj
            obtain ⟨u, hu1⟩ : ∃ u, ts[j]? = some u := ⟨_, List.getElem?_eq_getElem (by omega)⟩
            right
            refine ⟨u, pv0 ts j, ?_, ?_, List.mem_append_left _ (hm _ (hti j u hu1 _ (by simp [Tk.led]))), List.mem_append_left _ (hm _ (hti j u hu1 _ ?_))⟩
            · rw [List.getLast?_map, hcl2]; simp [tokAt, hu1]
            · simp [pv0, hu1]
            · have : nx0 ts j = .ref t.a := by simp [nx0, hti2]
              rw [← this]; simp [Tk.led]
        · rw [List.length_map]
          exact Nat.le_trans (partsU_last_len (semiAt ts) i cc hcc) (by omega)
        intro h2 tk2 F3 N3
        k_steps
        with_reducible rename News _ _ _ _ => hN
        have e1 : partsU (semiAt ts) (i + 1) = (partsU (semiAt ts) i).dropLast ++ [((partsU (semiAt ts) i).getLast?.getD []) ++ [i]] := by rw [partsU, hsa, if_neg (by rw [hb]; decide)]
        have e2 : cc.map (tokAt ts) ++ [Value.ref t.a] = (cc ++ [i]).map (tokAt ts) := by simp [tokAt, hti2]
        rw [e2] at hN
        refine InvEndG.intro (nx := (cur.l, W.listOf ((cc ++ [i]).map (tokAt ts)).toArray (kc + 1)) :: offs nx [cur.l]) (by assumption) hN ⟨?_, (cur, ds), ⟨?_, ⟨kp, ?_⟩, ?_⟩, ?_, ?_⟩ ?_ (fun p hp => ?_) (fun p hp => ?_)
        · exact .tail _ (hm _ hl)
        · rw [e1]
          exact hL.app N0s.out hcc (.head _) fun q hq e => .tail _ (mem_offs hq (fun h => e (List.mem_singleton.mp h)))
        · exact .tail _ (mem_offs hpm (fun h => by
            have h : pl = cur.l := List.mem_singleton.mp h
            exact (List.nodup_cons.mp hnd).1 (by rw [h]; simp)))
        · intro q hq
          exact ⟨.tail _ (hm _ hq), (hO q hq).2⟩
        · intro p hp
          rw [List.mem_singleton.mp hp]
          have h5 : ¬ Str.ofString "lline" = Str.ofString "tok" := by decide +kernel
          refine (if_neg h5).trans ?_
          simp [kstB]
        · intro z h1 h2 h3
          have h4 : z ≠ Str.ofString "lline" := h2 _ (.head _)
          simp [mapS, kstB, h4, h1]
        · intro p hp b hb e
          simp only [List.map_cons, List.mem_cons] at hb
          rcases hb with rfl | hb
          · exact hoff p hp _ (List.mem_map.mpr ⟨_, hcl, rfl⟩) e
          · obtain ⟨q, hq, rfl⟩ := List.mem_map.mp hb
            exact hoff p hp _ (List.mem_map.mpr ⟨q, offs_sub hq, rfl⟩) e
        · rcases List.mem_cons.mp hp with rfl | hp
          · exact .head _
          · exact .tail _ (List.mem_append_left _ hp)
        · exact .tail _ (List.mem_append_right _ hp)
    · rintro ⟨cur, ds⟩ u nx h tk ⟨hL, ⟨kp, hpm⟩, hO⟩ F₁ N₁
      dsimp only at hL hpm hO
      rw [hvl] at hL
      have hlen := hL.len
      simp at hlen
      have hpn := partsU_ne (semiAt ts) ts.length
      have hpn2 := partsU_len (semiAt ts) ts.length
      obtain ⟨cc, hcc⟩ : ∃ ns, (partsU (semiAt ts) ts.length).getLast? = some ns := ⟨_, List.getLast?_eq_some_getLast (fun e => by simp [e] at hpn)⟩
      obtain ⟨hc1, hc2, kc, hcl⟩ := hL.each ds.length cur cc (by simp) (by rw [← hcc, List.getLast?_eq_getElem?]; congr 1; omega)
      have hcm1 : (cur.a, instObj 132 cur.d) ∈ nx := hc1 _ (by simp [Ln.led])
      have hcm2 : (cur.d, dictOf cur.es cur.cnt) ∈ nx := hc1 _ (by simp [Ln.led])
      have hcg := cur.gtok
      have hvc : (cc.map (tokAt ts)).length = cc.length := List.length_map _
      have hcc8 : cc.length ≤ 1000 := Nat.le_trans (partsU_last_len (semiAt ts) _ cc hcc) (by omega)
      have N0s : Stop (News _ _ h nx) := ⟨N₁⟩
      cases hce : cc.isEmpty with
      | true =>
        have hvb : (!(cc.map (tokAt ts)).isEmpty) = false := by rw [List.isEmpty_map, hce]; rfl
        k_steps
        refine ⟨?_⟩
        obtain ⟨hL2, hpm2, hO2⟩ : LinesIn nx ts x.dep pl ds (dueU (semiAt ts) ts.length) ∧ (pl, W.listOf (ds.map fun z => Value.ref z.a).toArray kp) ∈ nx ∧ ∀ q ∈ news0, q ∈ nx := ⟨by rw [dueU_nil hcc hce]; exact hL.dropLast, hpm, fun q hq => (hO q hq).1⟩
        with_reducible rename Fr _ _ _ _ => hF
        with_reducible rename News _ _ _ _ => hN
        have hppl : (dueU (semiAt ts) ts.length).length ≤ 1000 := by rw [← hL2.len]; first | omega | (simp; omega)
        generalize hdue : dueU (semiAt ts) ts.length = pp at *
        have hPP : ∀ ns ∈ pp, ∀ m ∈ ns, m < ts.length := fun ns hns m hm => ((partsU_PP (semiAt ts) ts.length).el ns (dueU_sub ns (hdue ▸ hns)) m hm).1
        clear hcg N0s
        refine ls_loop (σ := Unit) (fun _ => []) [] (fun j _ nx => LinesIn nx ts x.dep pl ds pp ∧ TIn ts (pvK ts (pp.take j)) (nxK ts (pp.take j)) nx ∧ (∀ q ∈ news0, OffD ts q → q ∈ nx) ∧ (∀ ns ∈ pp.take j, ns ≠ []) ∧ (pl, W.listOf (ds.map fun z => Value.ref z.a).toArray kp) ∈ nx) () rfl hpm2 hF hN (fun _ h => nomatch h) ⟨hL2, ?_, fun q hq _ => hO2 q hq, by simp, hpm2⟩ ?_ ?_
        · rw [List.take_zero, pvK_nil, nxK_nil]
          exact hti.mono hO2
        · rintro j c v u nx3 h3 tk3 own hv hoff hll ⟨hL3, hT3, hR3, hne3, hpl3⟩ F₁ N₁
          rw [List.getElem?_map] at hv
          obtain ⟨z, hz, rfl⟩ := Option.map_eq_some_iff.mp hv
          have hjl := (List.getElem?_eq_some_iff.mp hz).1
          obtain ⟨ns, hns⟩ : ∃ ns, pp[j]? = some ns := ⟨_, List.getElem?_eq_getElem (by rw [← hL3.len]; exact hjl)⟩
          obtain ⟨hz1, hz2, kz, hzl⟩ := hL3.each j z ns hz hns
          have hza : (z.a, instObj 132 z.d) ∈ nx3 := hz1 _ (by simp [Ln.led])
          have hzd : (z.d, dictOf z.es z.cnt) ∈ nx3 := hz1 _ (by simp [Ln.led])
          have hzg := z.gtok
          have htake : pp.take (j + 1) = pp.take j ++ [ns] := by rw [List.take_add_one, hns]; rfl
          have N3 := News.left N₁
          have hdc : ∀ t ∈ ts, ∃ o, (t.d, o) ∈ nx3 ∧ o.cls = .type "dict" := fun t ht => by
            obtain ⟨i, hi⟩ := List.mem_iff_getElem?.mp ht
            exact ⟨_, hT3 i t hi (t.d, dictOf (t.es (pvK ts (pp.take j) i) (nxK ts (pp.take j) i)) t.cnt) (by simp [Tk.led]), rfl⟩
          have hOD : ∀ q ∈ nx3, q.2.cls ≠ .type "dict" → OffD ts q := fun q hq hc t ht => by
            obtain ⟨o, ho, hoc⟩ := hdc t ht
            exact ne_of_cls N3 (a := q.1) (o := q.2) hq ho (by rw [hoc]; exact hc)
          cases ns with
          | nil =>
            have hz0 : (([] : List Nat).map (tokAt ts)).length = 0 := rfl
            have htN3 : (123, tabO ps1) ∈ nx3 := hR3 _ htN (fun t ht e => by
              obtain ⟨o, ho, hoc⟩ := hdc t ht
              obtain ⟨i, hi⟩ := List.mem_iff_getElem?.mp ht
              exact ne_of_cls hNs0.out htN (hti i t hi (t.d, dictOf (t.es (pv0 ts i) (nx0 ts i)) t.cnt) (by simp [Tk.led])) (by intro e; cases e) e)
            clear N3
            k_steps
            with_reducible rename RaisedSN _ _ _ _ _ _ _ => hS
            obtain ⟨ob, hob, hobc⟩ : ∃ ob, _ ∧ _ := hS.choose_spec.choose_spec.2.2.2.there
            refine noteIf_skip hob hobc ?_
            clear hob hobc
            k_steps
            with_reducible rename RaisedSN _ _ _ _ _ _ _ => hS2
            exact hexc _ _ _ _ ps1 hsc ⟨[], List.mem_of_getElem? hns, rfl⟩ hFGs.out hS2 (by assumption) (fun q hq hc ho => List.mem_append_left _ (hR3 _ (hK q hq hc) ho)) (List.mem_append_left _ htN3) hps1 hg1 hos1
          | cons f rest =>
            obtain ⟨g, hg⟩ : ∃ g, (f :: rest).getLast? = some g := ⟨_, List.getLast?_eq_some_getLast (by simp)⟩
            have hfm := hPP _ (List.mem_of_getElem? hns) f (by simp)
            have hgm := hPP _ (List.mem_of_getElem? hns) g (List.mem_of_getLast? hg)
            obtain ⟨t0, ht0⟩ : ∃ t, ts[f]? = some t := ⟨_, List.getElem?_eq_getElem hfm⟩
            obtain ⟨t1, ht1⟩ : ∃ t, ts[g]? = some t := ⟨_, List.getElem?_eq_getElem hgm⟩
            have hx0 : ((f :: rest).map (tokAt ts))[0]? = some (.ref t0.a) := by simp [tokAt, ht0]
            have hxl : ((f :: rest).map (tokAt ts)).getLast? = some (.ref t1.a) := by rw [List.getLast?_map, hg]; simp [tokAt, ht1]
            have m1 : (t0.a, instObj 486 t0.d) ∈ nx3 := hT3 f t0 ht0 _ (by simp [Tk.led])
            have m2 : (t0.d, dictOf (t0.es (pvK ts (pp.take j) f) (nxK ts (pp.take j) f)) t0.cnt) ∈ nx3 := hT3 f t0 ht0 _ (by simp [Tk.led])
            have ht0m := List.mem_of_getElem? ht0
            have ht1m := List.mem_of_getElem? ht1
            generalize hpvk : pvK ts (pp.take j) = pvk at *
            generalize hnxk : nxK ts (pp.take j) = nxk at *
            have hA : ∀ q ∈ nx3, q.1 ≠ t0.d → q ∈ (t0.d, dictOf (t0.es .none (nxk f)) t0.cnt) :: offs nx3 [t0.d] := fun q hq e => .tail _ (mem_offs hq (fun h => e (List.mem_singleton.mp h)))
            have hAB : ∀ q ∈ (t0.d, dictOf (t0.es .none (nxk f)) t0.cnt) :: offs nx3 [t0.d], q ∈ (t0.d, dictOf (t0.es .none (nxk f)) t0.cnt) :: offs (nx3 ++ own) [t0.d] := fun q hq => by
              rcases List.mem_cons.mp hq with rfl | hq
              · exact .head _
              · exact .tail _ (by unfold offs at *; rw [List.filter_append]; exact List.mem_append_left _ hq)
            have hT4 : TIn ts (updV pvk f .none) nxk ((t0.d, dictOf (t0.es .none (nxk f)) t0.cnt) :: offs nx3 [t0.d]) := by
              have := hT3.upd hSep ht0 (p' := .none) (n' := nxk f) (.head _) hA
              rw [updV_same] at this
              exact this
            have hza' := hAB _ (hA _ hza (hOD _ hza (by intro e; cases e) t0 ht0m))
            have hzd' := hAB _ (hA _ hzd (hL3.offd z (List.mem_of_getElem? hz) t0 ht0m))
            have hzl' := hAB _ (hA _ hzl (hOD _ hzl (by intro e; have e2 : Value.type "list" = Value.type "dict" := e; exact absurd (Value.type.inj e2) (by decide)) t0 ht0m))
            have m3 : (t1.a, instObj 486 t1.d) ∈ nx3 := hT3 g t1 ht1 _ (by simp [Tk.led])
            have m3' := hAB _ (hA _ m3 (hOD _ m3 (by intro e; cases e) t0 ht0m))
            have m4 : (t1.d, dictOf (t1.es (updV pvk f .none g) (nxk g)) t1.cnt) ∈ _ := hT4 g t1 ht1 _ (by simp [Tk.led])
            have m4' := hAB _ m4
            have hll2 := hOD _ hll (by intro e; have e2 : Value.type "list" = Value.type "dict" := e; exact absurd (Value.type.inj e2) (by decide))
            have N3s : Stop (News _ _ h3 nx3) := ⟨N3⟩
            clear N3
            k_steps
            with_reducible rename News _ _ _ _ => hN
            have hB : ∀ q ∈ nx3, OffD ts q → q ∈ (t1.d, dictOf (t1.es (updV pvk f .none g) .none) t1.cnt) :: offs ((t0.d, dictOf (t0.es .none (nxk f)) t0.cnt) :: offs nx3 [t0.d]) [t1.d] := fun q hq ho =>
              .tail _ (mem_offs (hA q hq (ho t0 ht0m)) (fun h => ho t1 ht1m (List.mem_singleton.mp h)))
            refine InvEndG.intro (nx := (t1.d, dictOf (t1.es (updV pvk f .none g) .none) t1.cnt) :: offs ((t0.d, dictOf (t0.es .none (nxk f)) t0.cnt) :: offs nx3 [t0.d]) [t1.d]) (by assumption) hN ⟨hB _ hll hll2, (), ⟨hL3.offT N3s.out hT3 hB, ?_, fun q hq ho => hB q (hR3 q hq ho) ho, ?_, hB _ hpl3 hll2⟩, (fun _ h => nomatch h), ?_⟩ ?_ (fun p hp => ?_) (fun p hp => ?_)
            · rw [htake, pvK_succ (f := f) rfl, nxK_succ (f := g) hg, hpvk, hnxk]
              have := hT4.upd hSep ht1 (p' := updV pvk f .none g) (n' := .none) (.head _) (led' := (t1.d, dictOf (t1.es (updV pvk f .none g) .none) t1.cnt) :: offs ((t0.d, dictOf (t0.es .none (nxk f)) t0.cnt) :: offs nx3 [t0.d]) [t1.d]) (fun q hq e => .tail _ (mem_offs hq (fun h => e (List.mem_singleton.mp h))))
              rw [updV_same] at this
              exact this
            · intro ns hns2
              rw [htake] at hns2
              rcases List.mem_append.mp hns2 with h | h
              · exact hne3 ns h
              · rw [List.mem_singleton.mp h]; simp
            · intro z h1 h2 h3
              simp [mapS, kstB, h1]
            · intro p hp b hb e
              have hin : ∀ q ∈ (t1.d, dictOf (t1.es (updV pvk f .none g) .none) t1.cnt) :: offs ((t0.d, dictOf (t0.es .none (nxk f)) t0.cnt) :: offs nx3 [t0.d]) [t1.d], q.1 ∈ nx3.map (·.1) := fun q hq => by
                rcases List.mem_cons.mp hq with rfl | hq
                · obtain ⟨o, ho, _⟩ := hdc t1 ht1m
                  exact List.mem_map.mpr ⟨_, ho, rfl⟩
                · rcases List.mem_cons.mp (offs_sub hq) with rfl | hq
                  · exact List.mem_map.mpr ⟨_, m2, rfl⟩
                  · exact List.mem_map.mpr ⟨_, offs_sub hq, rfl⟩
              obtain ⟨q, hq, rfl⟩ := List.mem_map.mp hb
              exact hoff p hp _ (hin q hq) e
            · rcases List.mem_cons.mp hp with rfl | hp
              · exact .head _
              · exact .tail _ (mem_offs (hAB _ (offs_sub hp)) (fun h => offs_off _ _ p hp _ (by simp) (List.mem_singleton.mp h)))
            · refine .tail _ (mem_offs (.tail _ (mem_offs (List.mem_append_right _ hp) fun h => ?_)) fun h => ?_)
              · exact hoff p hp _ (List.mem_map.mpr ⟨_, m2, rfl⟩) (List.mem_singleton.mp h)
              · obtain ⟨o, ho, _⟩ := hdc t1 ht1m
                exact hoff p hp _ (List.mem_map.mpr ⟨_, ho, rfl⟩) (List.mem_singleton.mp h)
        · rintro c u nx3 h3 tk3 ⟨hL3, hT3, hR3, hne3, hpl3⟩ F₁ N₁
          rw [List.length_map, hL2.len, List.take_length] at hT3 hne3
          have htN3 : (123, tabO ps1) ∈ nx3 := hR3 _ htN (fun t ht e => by
            obtain ⟨i, hi⟩ := List.mem_iff_getElem?.mp ht
            exact ne_of_cls hNs0.out htN (hti i t hi (t.d, dictOf (t.es (pv0 ts i) (nx0 ts i)) t.cnt) (by simp [Tk.led])) (by intro e; cases e) e)
          k_steps
          exact hretB pl ds kp _ nx3 ps1 hsc hne3 hL3 hpl3 hT3 (fun q hq hc ho => hR3 _ (hK q hq hc) ho) htN3 hps1 (by assumption) (by assumption) hg1 hos1
      | false =>
        have hvb : (!(cc.map (tokAt ts)).isEmpty) = true := by rw [List.isEmpty_map, hce]; rfl
        have N2' := focus0 N₁ hpm
        have hm : ∀ q ∈ nx, q.1 ≠ pl → q ∈ offs nx [pl] := fun q hq e => mem_offs hq (fun h => e (List.mem_singleton.mp h))
        have hcd := fun q hq => hm q (hc1 q hq) (inst_ne_list N0s.out hc1 hpm q hq)
        have hcm1' : (cur.a, instObj 132 cur.d) ∈ offs nx [pl] := hcd _ (by simp [Ln.led])
        have hcm2' : (cur.d, dictOf cur.es cur.cnt) ∈ offs nx [pl] := hcd _ (by simp [Ln.led])
        have hnd := hL.nodup
        have hcl' := hm _ hcl (fun e => by
          have e : cur.l = pl := e
          exact (List.nodup_cons.mp hnd).1 (by rw [← e]; simp))
        have ho : OwnOff (offs nx [pl]) [pl] := offs_off _ _
        clear N₁
        k_steps
        refine ⟨?_⟩
        rename_i N₄
        rw [List.push_toArray] at N₄
        have e2 : (ds.map fun z => Value.ref z.a) ++ [Value.ref cur.a] = (ds ++ [cur]).map fun z => Value.ref z.a := by simp
        rw [e2] at N₄
        obtain ⟨hL2, hpm2, hO2⟩ : LinesIn ((pl, W.listOf ((ds ++ [cur]).map fun z => Value.ref z.a).toArray (kp + 1)) :: offs nx [pl]) ts x.dep pl (ds ++ [cur]) (dueU (semiAt ts) ts.length) ∧ (pl, W.listOf ((ds ++ [cur]).map fun z => Value.ref z.a).toArray (kp + 1)) ∈ ((pl, W.listOf ((ds ++ [cur]).map fun z => Value.ref z.a).toArray (kp + 1)) :: offs nx [pl]) ∧ ∀ q ∈ news0, q ∈ ((pl, W.listOf ((ds ++ [cur]).map fun z => Value.ref z.a).toArray (kp + 1)) :: offs nx [pl]) := ⟨by rw [dueU_cons hcc hce]; exact hL.keepL N0s.out hpm fun q hq e => .tail _ (hm q hq e), .head _, fun q hq => .tail _ (hm q (hO q hq).1 (fun e => (hO q hq).2 (e ▸ .head _)))⟩
        with_reducible rename Fr _ _ _ _ => hF
        with_reducible rename News _ _ _ _ => hN
        have hppl : (dueU (semiAt ts) ts.length).length ≤ 1000 := by rw [← hL2.len]; first | omega | (simp; omega)
        generalize hdue : dueU (semiAt ts) ts.length = pp at *
        have hPP : ∀ ns ∈ pp, ∀ m ∈ ns, m < ts.length := fun ns hns m hm => ((partsU_PP (semiAt ts) ts.length).el ns (dueU_sub ns (hdue ▸ hns)) m hm).1
        clear hcg N0s
        refine ls_loop (σ := Unit) (fun _ => []) [] (fun j _ nx => LinesIn nx ts x.dep pl (ds ++ [cur]) pp ∧ TIn ts (pvK ts (pp.take j)) (nxK ts (pp.take j)) nx ∧ (∀ q ∈ news0, OffD ts q → q ∈ nx) ∧ (∀ ns ∈ pp.take j, ns ≠ []) ∧ (pl, W.listOf ((ds ++ [cur]).map fun z => Value.ref z.a).toArray (kp + 1)) ∈ nx) () rfl hpm2 hF hN (fun _ h => nomatch h) ⟨hL2, ?_, fun q hq _ => hO2 q hq, by simp, hpm2⟩ ?_ ?_
        · rw [List.take_zero, pvK_nil, nxK_nil]
          exact hti.mono hO2
        · rintro j c v u nx3 h3 tk3 own hv hoff hll ⟨hL3, hT3, hR3, hne3, hpl3⟩ F₁ N₁
          rw [List.getElem?_map] at hv
          obtain ⟨z, hz, rfl⟩ := Option.map_eq_some_iff.mp hv
          have hjl := (List.getElem?_eq_some_iff.mp hz).1
          obtain ⟨ns, hns⟩ : ∃ ns, pp[j]? = some ns := ⟨_, List.getElem?_eq_getElem (by rw [← hL3.len]; exact hjl)⟩
          obtain ⟨hz1, hz2, kz, hzl⟩ := hL3.each j z ns hz hns
          have hza : (z.a, instObj 132 z.d) ∈ nx3 := hz1 _ (by simp [Ln.led])
          have hzd : (z.d, dictOf z.es z.cnt) ∈ nx3 := hz1 _ (by simp [Ln.led])
          have hzg := z.gtok
          have htake : pp.take (j + 1) = pp.take j ++ [ns] := by rw [List.take_add_one, hns]; rfl
          have N3 := News.left N₁
          have hdc : ∀ t ∈ ts, ∃ o, (t.d, o) ∈ nx3 ∧ o.cls = .type "dict" := fun t ht => by
            obtain ⟨i, hi⟩ := List.mem_iff_getElem?.mp ht
            exact ⟨_, hT3 i t hi (t.d, dictOf (t.es (pvK ts (pp.take j) i) (nxK ts (pp.take j) i)) t.cnt) (by simp [Tk.led]), rfl⟩
          have hOD : ∀ q ∈ nx3, q.2.cls ≠ .type "dict" → OffD ts q := fun q hq hc t ht => by
            obtain ⟨o, ho, hoc⟩ := hdc t ht
            exact ne_of_cls N3 (a := q.1) (o := q.2) hq ho (by rw [hoc]; exact hc)
          cases ns with
          | nil =>
            have hz0 : (([] : List Nat).map (tokAt ts)).length = 0 := rfl
            have htN3 : (123, tabO ps1) ∈ nx3 := hR3 _ htN (fun t ht e => by
              obtain ⟨o, ho, hoc⟩ := hdc t ht
              obtain ⟨i, hi⟩ := List.mem_iff_getElem?.mp ht
              exact ne_of_cls hNs0.out htN (hti i t hi (t.d, dictOf (t.es (pv0 ts i) (nx0 ts i)) t.cnt) (by simp [Tk.led])) (by intro e; cases e) e)
            clear N3
            k_steps
            with_reducible rename RaisedSN _ _ _ _ _ _ _ => hS
            obtain ⟨ob, hob, hobc⟩ : ∃ ob, _ ∧ _ := hS.choose_spec.choose_spec.2.2.2.there
            refine noteIf_skip hob hobc ?_
            clear hob hobc
            k_steps
            with_reducible rename RaisedSN _ _ _ _ _ _ _ => hS2
            exact hexc _ _ _ _ ps1 hsc ⟨[], List.mem_of_getElem? hns, rfl⟩ hFGs.out hS2 (by assumption) (fun q hq hc ho => List.mem_append_left _ (hR3 _ (hK q hq hc) ho)) (List.mem_append_left _ htN3) hps1 hg1 hos1
          | cons f rest =>
            obtain ⟨g, hg⟩ : ∃ g, (f :: rest).getLast? = some g := ⟨_, List.getLast?_eq_some_getLast (by simp)⟩
            have hfm := hPP _ (List.mem_of_getElem? hns) f (by simp)
            have hgm := hPP _ (List.mem_of_getElem? hns) g (List.mem_of_getLast? hg)
            obtain ⟨t0, ht0⟩ : ∃ t, ts[f]? = some t := ⟨_, List.getElem?_eq_getElem hfm⟩
            obtain ⟨t1, ht1⟩ : ∃ t, ts[g]? = some t := ⟨_, List.getElem?_eq_getElem hgm⟩
            have hx0 : ((f :: rest).map (tokAt ts))[0]? = some (.ref t0.a) := by simp [tokAt, ht0]
            have hxl : ((f :: rest).map (tokAt ts)).getLast? = some (.ref t1.a) := by rw [List.getLast?_map, hg]; simp [tokAt, ht1]
            have m1 : (t0.a, instObj 486 t0.d) ∈ nx3 := hT3 f t0 ht0 _ (by simp [Tk.led])
            have m2 : (t0.d, dictOf (t0.es (pvK ts (pp.take j) f) (nxK ts (pp.take j) f)) t0.cnt) ∈ nx3 := hT3 f t0 ht0 _ (by simp [Tk.led])
            have ht0m := List.mem_of_getElem? ht0
            have ht1m := List.mem_of_getElem? ht1
            generalize hpvk : pvK ts (pp.take j) = pvk at *
            generalize hnxk : nxK ts (pp.take j) = nxk at *
            have hA : ∀ q ∈ nx3, q.1 ≠ t0.d → q ∈ (t0.d, dictOf (t0.es .none (nxk f)) t0.cnt) :: offs nx3 [t0.d] := fun q hq e => .tail _ (mem_offs hq (fun h => e (List.mem_singleton.mp h)))
            have hAB : ∀ q ∈ (t0.d, dictOf (t0.es .none (nxk f)) t0.cnt) :: offs nx3 [t0.d], q ∈ (t0.d, dictOf (t0.es .none (nxk f)) t0.cnt) :: offs (nx3 ++ own) [t0.d] := fun q hq => by
              rcases List.mem_cons.mp hq with rfl | hq
              · exact .head _
              · exact .tail _ (by unfold offs at *; rw [List.filter_append]; exact List.mem_append_left _ hq)
            have hT4 : TIn ts (updV pvk f .none) nxk ((t0.d, dictOf (t0.es .none (nxk f)) t0.cnt) :: offs nx3 [t0.d]) := by
              have := hT3.upd hSep ht0 (p' := .none) (n' := nxk f) (.head _) hA
              rw [updV_same] at this
              exact this
            have hza' := hAB _ (hA _ hza (hOD _ hza (by intro e; cases e) t0 ht0m))
            have hzd' := hAB _ (hA _ hzd (hL3.offd z (List.mem_of_getElem? hz) t0 ht0m))
            have hzl' := hAB _ (hA _ hzl (hOD _ hzl (by intro e; have e2 : Value.type "list" = Value.type "dict" := e; exact absurd (Value.type.inj e2) (by decide)) t0 ht0m))
            have m3 : (t1.a, instObj 486 t1.d) ∈ nx3 := hT3 g t1 ht1 _ (by simp [Tk.led])
            have m3' := hAB _ (hA _ m3 (hOD _ m3 (by intro e; cases e) t0 ht0m))
            have m4 : (t1.d, dictOf (t1.es (updV pvk f .none g) (nxk g)) t1.cnt) ∈ _ := hT4 g t1 ht1 _ (by simp [Tk.led])
            have m4' := hAB _ m4
            have hll2 := hOD _ hll (by intro e; have e2 : Value.type "list" = Value.type "dict" := e; exact absurd (Value.type.inj e2) (by decide))
            have N3s : Stop (News _ _ h3 nx3) := ⟨N3⟩
            clear N3
            k_steps
            with_reducible rename News _ _ _ _ => hN
            have hB : ∀ q ∈ nx3, OffD ts q → q ∈ (t1.d, dictOf (t1.es (updV pvk f .none g) .none) t1.cnt) :: offs ((t0.d, dictOf (t0.es .none (nxk f)) t0.cnt) :: offs nx3 [t0.d]) [t1.d] := fun q hq ho =>
              .tail _ (mem_offs (hA q hq (ho t0 ht0m)) (fun h => ho t1 ht1m (List.mem_singleton.mp h)))
            refine InvEndG.intro (nx := (t1.d, dictOf (t1.es (updV pvk f .none g) .none) t1.cnt) :: offs ((t0.d, dictOf (t0.es .none (nxk f)) t0.cnt) :: offs nx3 [t0.d]) [t1.d]) (by assumption) hN ⟨hB _ hll hll2, (), ⟨hL3.offT N3s.out hT3 hB, ?_, fun q hq ho => hB q (hR3 q hq ho) ho, ?_, hB _ hpl3 hll2⟩, (fun _ h => nomatch h), ?_⟩ ?_ (fun p hp => ?_) (fun p hp => ?_)
            · rw [htake, pvK_succ (f := f) rfl, nxK_succ (f := g) hg, hpvk, hnxk]
              have := hT4.upd hSep ht1 (p' := updV pvk f .none g) (n' := .none) (.head _) (led' := (t1.d, dictOf (t1.es (updV pvk f .none g) .none) t1.cnt) :: offs ((t0.d, dictOf (t0.es .none (nxk f)) t0.cnt) :: offs nx3 [t0.d]) [t1.d]) (fun q hq e => .tail _ (mem_offs hq (fun h => e (List.mem_singleton.mp h))))
              rw [updV_same] at this
              exact this
            · intro ns hns2
              rw [htake] at hns2
              rcases List.mem_append.mp hns2 with h | h
              · exact hne3 ns h
              · rw [List.mem_singleton.mp h]; simp
            · intro z h1 h2 h3
              simp [mapS, kstB, h1]
            · intro p hp b hb e
              have hin : ∀ q ∈ (t1.d, dictOf (t1.es (updV pvk f .none g) .none) t1.cnt) :: offs ((t0.d, dictOf (t0.es .none (nxk f)) t0.cnt) :: offs nx3 [t0.d]) [t1.d], q.1 ∈ nx3.map (·.1) := fun q hq => by
                rcases List.mem_cons.mp hq with rfl | hq
                · obtain ⟨o, ho, _⟩ := hdc t1 ht1m
                  exact List.mem_map.mpr ⟨_, ho, rfl⟩
                · rcases List.mem_cons.mp (offs_sub hq) with rfl | hq
                  · exact List.mem_map.mpr ⟨_, m2, rfl⟩
                  · exact List.mem_map.mpr ⟨_, offs_sub hq, rfl⟩
              obtain ⟨q, hq, rfl⟩ := List.mem_map.mp hb
              exact hoff p hp _ (hin q hq) e
            · rcases List.mem_cons.mp hp with rfl | hp
              · exact .head _
              · exact .tail _ (mem_offs (hAB _ (offs_sub hp)) (fun h => offs_off _ _ p hp _ (by simp) (List.mem_singleton.mp h)))
            · refine .tail _ (mem_offs (.tail _ (mem_offs (List.mem_append_right _ hp) fun h => ?_)) fun h => ?_)
              · exact hoff p hp _ (List.mem_map.mpr ⟨_, m2, rfl⟩) (List.mem_singleton.mp h)
              · obtain ⟨o, ho, _⟩ := hdc t1 ht1m
                exact hoff p hp _ (List.mem_map.mpr ⟨_, ho, rfl⟩) (List.mem_singleton.mp h)
        · rintro c u nx3 h3 tk3 ⟨hL3, hT3, hR3, hne3, hpl3⟩ F₁ N₁
          rw [List.length_map, hL2.len, List.take_length] at hT3 hne3
          have htN3 : (123, tabO ps1) ∈ nx3 := hR3 _ htN (fun t ht e => by
            obtain ⟨i, hi⟩ := List.mem_iff_getElem?.mp ht
            exact ne_of_cls hNs0.out htN (hti i t hi (t.d, dictOf (t.es (pv0 ts i) (nx0 ts i)) t.cnt) (by simp [Tk.led])) (by intro e; cases e) e)
          k_steps
          exact hretB pl (ds ++ [cur]) (kp + 1) _ nx3 ps1 hsc hne3 hL3 hpl3 hT3 (fun q hq hc ho => hR3 _ (hK q hq hc) ho) htN3 hps1 (by assumption) (by assumption) hg1 hos1
end Mine
end
section
open PySem PySem.W PyProof.Rows PySem.Spec PySem.Calls
namespace Mine
local macro_rules | `(tactic| k_room) => `(tactic| (simp only [depth_under_make, depth_under_kw, depth_in1, depth_deeper, depth_caller, ktrTop]; omega))
local macro_rules | `(tactic| k_mem) => `(tactic| first | assumption | (refine List.mem_append_left _ ?_; assumption))
local macro_rules | `(tactic| walk_at "call builtin:len") => `(tactic| (k_here; (with_reducible show wpAny _ _ (call (Value.builtin _) [Value.ref _]) _ _ _); k_dflt (refine' len_mem ?N ?h ?n ?z ?_; (case N => k_asm); (case h => k_mem); (case n => with_reducible assumption); (case z => omega))))
local macro_rules | `(tactic| walk_at "subscriptTail Name Name ref int") => `(tactic| (k_here; (with_reducible show wpAny _ _ (subscriptTail _ _ (Value.ref _) (Value.int _ _)) _ _ _); k_dflt (refine' item_mem ?N ?h ?z ?y ?x ?_ ?s ?g; (case N => k_asm); (case h => k_mem); (case z => omega); (case y => omega); (case x => assumption); (case s => with_unfolding_all rfl); (case g => (intro _; with_unfolding_all rfl)))))
local macro_rules | `(tactic| walk_at "subscriptTail Name BinOp ref int") => `(tactic| (k_here; (with_reducible show wpAny _ _ (subscriptTail _ _ (Value.ref _) (Value.int _ _)) _ _ _); k_dflt (refine' item_mem ?N ?h ?z ?y ?x ?_ ?s ?g; (case N => k_asm); (case h => k_mem); (case z => omega); (case y => omega); (case x => assumption); (case s => with_unfolding_all rfl); (case g => (intro _; with_unfolding_all rfl)))))
local macro_rules | `(tactic| walk_at "truthy ref") => `(tactic| (k_here; k_dflt (refine' truthy_mem ?N ?h ?n ?z ?b ?_; (case N => k_asm); (case h => k_mem); (case n => with_reducible assumption); (case z => omega); (case b => assumption))))
local macro_rules | `(tactic| walk_at "getAttr ref") => `(tactic| (k_here; k_dflt (refine' get_own ?k1 ?k2 ?k3 ?k4 ?k5 ?k6 ?k7 ?k8 ?k9 ?_; (case k1 => k_asm); (case k2 => k_asm); (case k3 => k_inst); (case k4 => k_is); (case k5 => k_is); (case k6 => k_is); (case k7 => k_is); (case k8 => assumption); (case k9 => k_handed); k_whole)))
local macro_rules | `(tactic| walk_at "call ref") => `(tactic| (k_here; k_dflt (first
  | (refine' call_cls ?k1 ?k2 ?k3 ?k4 ?k5 ?k6 ?_; (case k1 => k_asm); (case k2 => k_asm); (case k3 => k_asm); (case k4 => k_is); (case k5 => k_is); (case k6 => k_is); k_whole; intro x' d' h' F' N' l1 l2; (try k_lt l1); (try k_lt2 l2); (try k_sweep); k_enter)
  | (refine' call_meth ?k1 ?k2 ?_; (case k1 => k_asm); (case k2 => k_mem); k_whole; k_enter)
  | (refine wpAny_call ?_; k_enter))))

local macro_rules | `(tactic| walk_at "getMethod ref") => `(tactic| (k_here; k_dflt (refine' method_inst ?k1 ?k2 ?k3 ?k4 ?k5 ?k6 ?k7 ?_; (case k1 => k_asm); (case k2 => k_asm); (case k3 => k_inst); (case k4 => k_is); (case k5 => k_is); (case k6 => k_is); (case k7 => assumption); k_whole)))
local macro_rules | `(tactic| walk_at "call ref") => `(tactic| (k_here; (with_reducible show wpAny _ _ (call (Value.ref 43) _) _ _ _); refine stop_here ?_))
local macro_rules | `(tactic| walk_at "call ref") => `(tactic| (k_here; (with_reducible show wpAny _ _ (call (Value.ref 525) _) _ _ _); refine stop_here ?_))
theorem fill14 {w : World} {h₀ : Heap} (X : (hd.heap_39 w.params).In h₀) : (hd.heap_39 w.params).In h₀ ∧ PySem.Challenge.rw_bu5043_01 = PySem.Challenge.rw_bu5043_01 := by
  k_fill
  exact ⟨X, rfl⟩

theorem lsplit_c {w : World} {p : Program} {loose : List Str} {mean : ExcName → Option Value} {mg mb : Str → Option Value}
    (dp un : Nat) (gd : Option (List Code)) (cn : Str) (nm : List (Str × NameKind)) (ig ic : Bool) (mr : List (Str × Const)) (a : Addr) (ccd : Value) (cl : List (Str × Addr)) (A₀ : Around) (base h₀ : Heap) (L : Addr) (m : Str → Option Value) (s : Shared)
    (Q E : Value → Shared → Prop) (k : Nat) (x : Ln w.params) (ts : List (Tk w.params)) (news : Led) (ps : Array Value)
    (B : Below A₀ base [] h₀) (F : Fr h₀ L s.heap m) (X : (hd.heap_39 w.params).In h₀) (XB : (hd.heap_39 w.params).In base) (TB : Top p loose mean mg mb base)
    (N : News h₀ L s.heap news) (T : Top p loose mean mg mb h₀) 
    (hx : ∀ q ∈ x.led, q ∈ news) (hl : (x.l, W.listOf (ts.map fun t => Value.ref t.a).toArray k) ∈ news) (hti : TIn ts (pv0 ts) (nx0 ts) news)
    (hP : (123, tabO ps) ∈ news) (hps : GTab ⟨78, 19, 78, 61⟩ ps)
    (hSep : Sep ts) (hn : ts.length ≤ 8) (hg : AllBare s.gens)
    (hd' : dp + 12 < recursionLimit) (hu : un + 100 < cLine)
    (hretA : ∀ (D : Addr) k' s' news' ps', (ts.any fun t => t.val == Str.ofString ";") = false → GTab ⟨78, 19, 78, 61⟩ ps' → Fr h₀ L s'.heap m → News h₀ L s'.heap news' → (∀ q ∈ news, q.1 ≠ 123 → q ∈ news') → (123, tabO ps') ∈ news' → (D, W.listOf #[Value.ref x.a] k') ∈ news' → AllBare s'.gens → s'.os = s.os → Q (.ref D) s')
    (hretB : ∀ (pl : Addr) (ls : List (Ln w.params)) kk s' news' ps', (ts.any fun t => t.val == Str.ofString ";") = true → (∀ ns ∈ dueU (semiAt ts) ts.length, ns ≠ []) → LinesIn news' ts x.dep pl ls (dueU (semiAt ts) ts.length) → (pl, W.listOf (ls.map fun z => Value.ref z.a).toArray kk) ∈ news' →
      TIn ts (pvK ts (dueU (semiAt ts) ts.length)) (nxK ts (dueU (semiAt ts) ts.length)) news' → (∀ q ∈ news, q.1 ≠ 123 → OffD ts q → q ∈ news') → (123, tabO ps') ∈ news' → GTab ⟨78, 19, 78, 61⟩ ps' → Fr h₀ L s'.heap m → News h₀ L s'.heap news' → AllBare s'.gens → s'.os = s.os → Q (.ref pl) s')
    (hretC : ∀ s' news' ps', (ts.any fun t => t.val == Str.ofString ";") = true → (∃ ns ∈ dueU (semiAt ts) ts.length, ns = []) → (∀ q ∈ news, q.1 ≠ 123 → OffD ts q → q ∈ news') → (123, tabO ps') ∈ news' → GTab ⟨78, 19, 78, 61⟩ ps' → Fr h₀ L s'.heap m → News h₀ L s'.heap news' → AllBare s'.gens → s'.os = s.os → Q .none s') :
    wpAny (model pr w) (ktrTop dp un gd cn ⟨.function, nm, ig, ic, mr⟩ L a ccd cl []) (call (.ref 525) [.ref x.a]) Q E s := by
  k_with_none
  w_top off
  have hx1 : (x.a, instObj 132 x.d) ∈ news := hx _ (by simp [Ln.led])
  have hx2 : (x.d, dictOf x.es x.cnt) ∈ news := hx _ (by simp [Ln.led])
  have g1 := x.gS
  refine wpAny_call ?_
  refine' enterS ?k1 ?k2 ?k3 ?k4 ?k5 ?kA ?kF ?kK ?k6 ?k7 ?k8 ?k9 ?kB ?_ ?c2 ?c3 ?c4 ?c5
  case kA => exact rfl
  case kF => exact rfl
  case kK => exact rfl
  case k1 => exact B
  case k2 => exact F
  case k3 => exact X
  case k4 => exact N
  case k5 => exact T
  case k6 => k_is
  case k7 => k_is
  case k8 => k_room
  case k9 => exact BindsTo.of_eq rfl
  case c5 => decide
  case kB => exact locs rfl
  case c2 => exact rfl
  case c3 => exact rfl
  case c4 => exact rfl
  intro g' L' h' FG' stG F' N' B' X' T' kdX
  dsimp only
  have hFGs : Stop (Fr h₀ L g' m ∧ h₀.StaysIn g' ∧ Fr h₀ L s.heap m) := ⟨FG', stG, F⟩
  k_steps
  refine ⟨?_⟩
  refine split_c _ _ _ _ _ _ _ _ _ _ _ _ _ _ _ _ _ _ _ _ k x ts news ps (by assumption) (by assumption) (by assumption) (by assumption) (by assumption) hx hl hti hP hps hSep hn hg (by dsimp only [PySem.Around.deeper, PySem.Around.in1, ktrTop]; omega) (by dsimp only [PySem.Around.deeper, PySem.Around.in1, ktrTop]; omega) ?_ ?_ ?_
  · intro D k1 s1 news1 ps1 hsc hps1 F1 N1 hK hP1 hD hg1 hos1
    k_steps
    obtain ⟨F2, N2⟩ := turn_back hFGs.out.2.2 hFGs.out.1 hFGs.out.2.1 KtsTurn.refl F1 N1
    exact hretA D k1 s1 news1 ps1 hsc hps1 F2 N2 hK hP1 hD hg1 hos1
  · intro pl ls kk s1 news1 ps1 hsc hne hL hpl hT hK hP1 hps1 F1 N1 hg1 hos1
    k_steps
    obtain ⟨F2, N2⟩ := turn_back hFGs.out.2.2 hFGs.out.1 hFGs.out.2.1 KtsTurn.refl F1 N1
    exact hretB pl ls kk s1 news1 ps1 hsc hne hL hpl hT hK hP1 hps1 F2 N2 hg1 hos1
  · intro e G s1 news1 ps1 hsc hex FG1 hR hU hK hP1 hps1 hg1 hos1
    k_steps
    with_reducible rename KtsTurn _ _ _ => hT
    with_reducible rename Fr _ _ _ _ => hF
    with_reducible rename News _ _ _ _ => hN
    obtain ⟨F2, N2⟩ := turn_back hFGs.out.2.2 hFGs.out.1 hFGs.out.2.1 hT hF hN
    exact hretC _ news1 ps1 hsc hex hK hP1 hps1 F2 N2 hg1 hos1
end Mine
end
section
open PySem PySem.W PyProof.Rows PySem.Spec PySem.Calls
namespace Mine
local macro_rules | `(tactic| k_room) => `(tactic| (simp only [depth_under_make, depth_under_kw, depth_in1, depth_deeper, depth_caller, ktrTop]; omega))
theorem fillV {w : World} {h₀ : Heap} (X : (hd.heap_39 w.params).In h₀) : (hd.heap_39 w.params).In h₀ ∧ PySem.Challenge.rw_bu5043_01 = PySem.Challenge.rw_bu5043_01 := by
  k_fill
  exact ⟨X, rfl⟩
def okVK (v : Str) (k : Int) : Prop := okV v ∧ 0 ≤ k ∧ k < 60
abbrev tup2 (v : Str) (tv : Tok) (k : Int) (tk : Tok) : Obj := { cls := .type "tuple", data := .seq #[.str v tv, .int k tk] }
theorem values_end {h₀ h' : Heap} {L l a1 a2 a3 a4 a5 a6 : Addr} {m : Str → Option Value} {s : Shared} {Q : Value → Shared → Prop} {tk' : Nat} {news : Led} {t1 t2 t3 t4 t5 t6 u1 u2 u3 u4 u5 u6 : Tok}
    (F : Fr h₀ L h' m) (N : News h₀ L h' ((l, W.listOf #[Value.ref a1, Value.ref a2, Value.ref a3, Value.ref a4, Value.ref a5, Value.ref a6] 0) :: (a6, tup2 (Str.ofString ";") t6 13 u6) :: (a5, tup2 (Str.ofString "# e") t5 53 u5) :: (a4, tup2 (Str.ofString "(") t4 7 u4) :: (a3, tup2 (Str.ofString "bcd") t3 1 u3) :: (a2, tup2 (Str.ofString ";") t2 13 u2) :: (a1, tup2 (Str.ofString "a") t1 1 u1) :: news))
    (o1 : ∀ q ∈ news, @LT.lt Nat _ q.1 a1) (o2 : @LT.lt Nat _ a1 a2) (o3 : @LT.lt Nat _ a2 a3) (o4 : @LT.lt Nat _ a3 a4) (o5 : @LT.lt Nat _ a4 a5) (o6 : @LT.lt Nat _ a5 a6) (o7 : @LT.lt Nat _ a6 l)
    (hret : ∀ (lv : Addr) (as : List Addr) k h' tk' vled, as.length = 6 → Fr h₀ L h' m → News h₀ L h' (news ++ vled) → (∀ q ∈ vled, ∀ p ∈ news, @LT.lt Nat _ p.1 q.1) → (lv, W.listOf (as.map Value.ref).toArray k) ∈ vled →
      (∀ (i : Nat) (b : Addr), as[i]? = some b → ∃ v tv kd tk, okVK v kd ∧ (b, tup2 v tv kd tk) ∈ vled) → Q (.ref lv) { s with heap := h', toks := tk' }) :
    Q (.ref l) { s with heap := h', toks := tk' } := by
  refine hret l [a1, a2, a3, a4, a5, a6] 0 h' tk' [(l, W.listOf #[Value.ref a1, Value.ref a2, Value.ref a3, Value.ref a4, Value.ref a5, Value.ref a6] 0), (a6, tup2 (Str.ofString ";") t6 13 u6), (a5, tup2 (Str.ofString "# e") t5 53 u5), (a4, tup2 (Str.ofString "(") t4 7 u4), (a3, tup2 (Str.ofString "bcd") t3 1 u3), (a2, tup2 (Str.ofString ";") t2 13 u2), (a1, tup2 (Str.ofString "a") t1 1 u1)] rfl F ?_ ?_ (.head _) ?_
  · intro q hq
    refine N q ?_
    rcases List.mem_append.mp hq with h | h
    · exact .tail _ (.tail _ (.tail _ (.tail _ (.tail _ (.tail _ (.tail _ h))))))
    · exact List.mem_append_left (as := [_, _, _, _, _, _, _]) _ h
  · intro q hq p hp
    have := o1 p hp
    simp only [List.mem_cons, List.not_mem_nil, or_false] at hq
    rcases hq with rfl | rfl | rfl | rfl | rfl | rfl | rfl <;> (dsimp only; omega)
  · intro i b hb
    match i, hb with
    | 0, hb => cases hb; exact ⟨_, t1, 1, u1, ⟨.inl rfl, by decide, by decide⟩, by simp⟩
    | 1, hb => cases hb; exact ⟨_, t2, 13, u2, ⟨.inr (.inl rfl), by decide, by decide⟩, by simp⟩
    | 2, hb => cases hb; exact ⟨_, t3, 1, u3, ⟨.inr (.inr (.inl rfl)), by decide, by decide⟩, by simp⟩
    | 3, hb => cases hb; exact ⟨_, t4, 7, u4, ⟨.inr (.inr (.inr (.inl rfl))), by decide, by decide⟩, by simp⟩
    | 4, hb => cases hb; exact ⟨_, t5, 53, u5, ⟨.inr (.inr (.inr (.inr rfl))), by decide, by decide⟩, by simp⟩
    | 5, hb => cases hb; exact ⟨_, t6, 13, u6, ⟨.inr (.inl rfl), by decide, by decide⟩, by simp⟩
    | n + 6, hb => simp at hb
theorem values_c {w : World} {p : Program} {loose : List Str} {mean : ExcName → Option Value} {mg mb : Str → Option Value}
    (dp un : Nat) (gd : Option (List Code)) (cn : Str) (cs : Scope) (a : Addr) (ccd : Value) (cl : List (Str × Addr)) (outer : List Env) (A₀ : Around) (base h₀ : Heap) (L : Addr) (m : Str → Option Value) (s : Shared)
    (Q E : Value → Shared → Prop) (news : Led)
    (B : Below A₀ base outer h₀) (F : Fr h₀ L s.heap m) (X : (hd.heap_39 w.params).In h₀)
    (N : News h₀ L s.heap news) (T : Top p loose mean mg mb h₀)
    (hk : cs.kind = .function)
    (hd' : dp + 2 < recursionLimit) (hu : un + 16 < cLine)
    (hret : ∀ (lv : Addr) (as : List Addr) k h' tk' vled, as.length = 6 → Fr h₀ L h' m → News h₀ L h' (news ++ vled) → (∀ q ∈ vled, ∀ p ∈ news, @LT.lt Nat _ p.1 q.1) → (lv, W.listOf (as.map Value.ref).toArray k) ∈ vled →
      (∀ (i : Nat) (b : Addr), as[i]? = some b → ∃ v tv kd tk, okVK v kd ∧ (b, tup2 v tv kd tk) ∈ vled) → Q (.ref lv) { s with heap := h', toks := tk' }) :
    wpAny (model pr w) (ktrTop dp un gd cn cs L a ccd cl outer) (call (.ref 497) []) Q E s := by
  k_with_none
  w_top off
  refine wpAny_call ?_
  k_dflt ktr_enter
  k_steps
  exact values_end (by assumption) (by assumption) (by first | assumption | exact tb_ltOf (by assumption)) (by omega) (by omega) (by omega) (by omega) (by omega) (by omega) hret
end Mine
end
section
open PySem PySem.W PyProof.Rows PySem.Spec PySem.Calls
namespace Mine
local macro_rules | `(tactic| k_room) => `(tactic| (simp only [depth_under_make, depth_under_kw, depth_in1, depth_deeper, depth_caller, ktrTop]; omega))
local macro_rules | `(tactic| k_mem) => `(tactic| first | assumption | (refine List.mem_append_left _ ?_; assumption))
local macro_rules | `(tactic| walk_at "call builtin:len") => `(tactic| (k_here; (with_reducible show wpAny _ _ (call (Value.builtin _) [Value.ref _]) _ _ _); k_dflt (refine' len_mem ?N ?h ?n ?z ?_; (case N => k_asm); (case h => k_mem); (case n => with_reducible assumption); (case z => omega))))
local macro_rules | `(tactic| walk_at "subscriptTail Name Name ref int") => `(tactic| (k_here; (with_reducible show wpAny _ _ (subscriptTail _ _ (Value.ref _) (Value.int _ _)) _ _ _); k_dflt (refine' item_mem ?N ?h ?z ?y ?x ?_ ?s ?g; (case N => k_asm); (case h => k_mem); (case z => omega); (case y => omega); (case x => assumption); (case s => with_unfolding_all rfl); (case g => (intro _; with_unfolding_all rfl)))))
local macro_rules | `(tactic| walk_at "subscriptTail Name BinOp ref int") => `(tactic| (k_here; (with_reducible show wpAny _ _ (subscriptTail _ _ (Value.ref _) (Value.int _ _)) _ _ _); k_dflt (refine' item_mem ?N ?h ?z ?y ?x ?_ ?s ?g; (case N => k_asm); (case h => k_mem); (case z => omega); (case y => omega); (case x => assumption); (case s => with_unfolding_all rfl); (case g => (intro _; with_unfolding_all rfl)))))
local macro_rules | `(tactic| walk_at "truthy ref") => `(tactic| (k_here; k_dflt (refine' truthy_mem ?N ?h ?n ?z ?b ?_; (case N => k_asm); (case h => k_mem); (case n => with_reducible assumption); (case z => omega); (case b => assumption))))
local macro_rules | `(tactic| walk_at "setAttr ref") => `(tactic| (k_here; (with_reducible show wpAny _ _ (setAttr (Value.ref _) (Str.ofString "previous_token") _) _ _ _); k_dflt (refine' set_prev ?F ?X ?N ?m ?U ?_; (case F => k_asm); (case X => k_asm); (case N => k_asm); (case m => k_mem); (case U => k_upd)); intro h' F' N'; (try k_sweep)))
local macro_rules | `(tactic| walk_at "setAttr ref") => `(tactic| (k_here; (with_reducible show wpAny _ _ (setAttr (Value.ref _) (Str.ofString "next_token") _) _ _ _); k_dflt (refine' set_next ?F ?X ?N ?m ?U ?_; (case F => k_asm); (case X => k_asm); (case N => k_asm); (case m => k_mem); (case U => k_upd)); intro h' F' N'; (try k_sweep)))
local macro_rules | `(tactic| walk_at "getAttr ref") => `(tactic| (k_here; k_dflt (refine' get_own ?k1 ?k2 ?k3 ?k4 ?k5 ?k6 ?k7 ?k8 ?k9 ?_; (case k1 => k_asm); (case k2 => k_asm); (case k3 => k_inst); (case k4 => k_is); (case k5 => k_is); (case k6 => k_is); (case k7 => k_is); (case k8 => assumption); (case k9 => k_handed); k_whole)))
local macro_rules | `(tactic| walk_at "call ref") => `(tactic| (k_here; k_dflt (first
  | (refine' call_cls ?k1 ?k2 ?k3 ?k4 ?k5 ?k6 ?_; (case k1 => k_asm); (case k2 => k_asm); (case k3 => k_asm); (case k4 => k_is); (case k5 => k_is); (case k6 => k_is); k_whole; intro x' d' h' F' N' l1 l2; (try k_lt l1); (try k_lt2 l2); (try k_sweep); k_enter)
  | (refine' call_meth ?k1 ?k2 ?_; (case k1 => k_asm); (case k2 => k_mem); k_whole; k_enter)
  | (refine wpAny_call ?_; k_enter))))

local macro_rules | `(tactic| walk_at "call ref") => `(tactic| (k_here; (with_reducible show wpAny _ _ (call (Value.ref 504) _) _ _ _); refine stop_here ?_))
local macro_rules | `(tactic| walk_at "call ref") => `(tactic| (k_here; (with_reducible show wpAny _ _ (call (Value.ref 329) _) _ _ _); refine stop_here ?_))
local macro_rules | `(tactic| walk_at "call ref") => `(tactic| (k_here; (with_reducible show wpAny _ _ (call (Value.ref 486) _) _ _ _); refine stop_here ?_))
local macro_rules | `(tactic| walk_at "call ref") => `(tactic| (k_here; (with_reducible show wpAny _ _ (call (Value.ref 132) _) _ _ _); refine stop_here ?_))
local macro_rules | `(tactic| walk_at "call ref") => `(tactic| (k_here; (with_reducible show wpAny _ _ (call (Value.ref 518) _) _ _ _); refine stop_here ?_))
local macro_rules | `(tactic| walk_at "call ref") => `(tactic| (k_here; (with_reducible show wpAny _ _ (call (Value.ref 74) _) _ _ _); refine stop_here ?_))
local macro_rules | `(tactic| walk_at "call ref") => `(tactic| (k_here; (with_reducible show wpAny _ _ (call (Value.ref 511) _) _ _ _); refine stop_here ?_))
local macro_rules | `(tactic| walk_at "call ref") => `(tactic| (k_here; (with_reducible show wpAny _ _ (call (Value.ref 525) _) _ _ _); refine stop_here ?_))
local macro_rules | `(tactic| walk_at "getAttr ref") => `(tactic| (k_here; (with_reducible show wpAny _ _ (getAttr (Value.ref _) (Str.ofString "has_semicolon") _) _ _ _); k_dflt (refine' get_prop ?k1 ?k2 ?k3 ?k4 ?k5 ?k6 ?k7 ?k8 ?k9 ?_; (case k1 => k_asm); (case k2 => k_asm); (case k3 => k_inst); (case k4 => k_is); (case k5 => k_is); (case k6 => k_is); (case k7 => k_is); (case k8 => k_is); (case k9 => k_is); k_whole; refine stop_here ?_)))
local macro_rules | `(tactic| walk_at "getMethod ref") => `(tactic| (k_here; k_dflt (refine' method_inst ?k1 ?k2 ?k3 ?k4 ?k5 ?k6 ?k7 ?_; (case k1 => k_asm); (case k2 => k_asm); (case k3 => k_inst); (case k4 => k_is); (case k5 => k_is); (case k6 => k_is); (case k7 => assumption); k_whole)))
local macro_rules | `(tactic| walk_at "call ref") => `(tactic| (k_here; (with_reducible show wpAny _ _ (call (Value.ref 497) _) _ _ _); refine stop_here ?_))
local macro_rules | `(tactic| k_mem) => `(tactic| first | assumption | (refine .tail _ (.tail _ (List.mem_append_right _ ?_)); assumption))
theorem okV_len {v : Str} (h : okV v) : v.length ≤ 10 := by
  rcases h with rfl | rfl | rfl | rfl | rfl <;> decide
theorem fillT {w : World} {h₀ : Heap} (X : (hd.heap_39 w.params).In h₀) : (hd.heap_39 w.params).In h₀ ∧ PySem.Challenge.rw_bu5043_01 = PySem.Challenge.rw_bu5043_01 := by
  k_fill
  exact ⟨X, rfl⟩
theorem turn_c {w : World} {p : Program} {loose : List Str} {mean : ExcName → Option Value} {mg mb : Str → Option Value} (base : Heap) (L a : Addr) (ccd : Value) (cT cL cP cM : Addr) (oT : Obj) (m : Str → Option Value) (s : Shared) (Q : Flow → Shared → Prop) (E : Value → Shared → Prop)
    (st lD tl : Addr) (ws vs : List Value) (ns : List Int) (c : Int) (tc : Tok) (k1 k2 kt : Nat) (rest : Led)
    (B : Below callerA base [] base) (F : Fr base L s.heap (fun y => if y = Str.ofString "state" then some (.ref st) else m y)) (X : (hd.heap_39 w.params).In base) (T : Top p loose mean mg mb base)
    (N : News base L s.heap ((st, W.listOf #[.ref lD, .int c tc] k1) :: (lD, W.listOf ws.toArray k2) :: (tl, W.listOf vs.toArray kt) :: (cT, oT) :: rest))
    (dT : oT.data = .cell (some (.ref tl)))
    (hI : IntsAre ws ns) (hns : ns.length ≤ 100) (hc : 0 ≤ c) (hc2 : c < 1000) (hvs : vs.length ≤ 1000)
    (hlt : @LT.lt Nat _ lD st) (hlt2 : @LT.lt Nat _ st tl) (off : OwnOff ((cT, oT) :: rest) [st]) (off2 : OwnOff ((cT, oT) :: rest) [tl])
    (hret : ∀ (t : Tk w.params) tc' k1' kt' h' tk' m', okV t.val → AllLt t.lfd ((st, W.listOf #[.ref lD, .int (c + 1 + 1 + 1) tc'] k1') :: (lD, W.listOf ws.toArray k2) :: (tl, W.listOf vs.toArray kt) :: (cT, oT) :: rest) → Fr base L h' m' →
      (∀ z, z ≠ Str.ofString "value" → z ≠ Str.ofString "kind" → z ≠ Str.ofString "spot" → m' z = if z = Str.ofString "state" then some (.ref st) else m z) →
      News base L h' ((tl, W.listOf (vs ++ [Value.ref t.a]).toArray kt') :: (cT, oT) :: (st, W.listOf #[.ref lD, .int (c + 1 + 1 + 1) tc'] k1') :: (lD, W.listOf ws.toArray k2) :: (t.led .none .none ++ rest)) → Q .next { s with heap := h', toks := tk' }) :
    wpAny (model pr w) (callerA.deeper (lawEnv L a ccd (lawCells cT cL cP cM))) (execs (lawLoop 3) (lawEnv L a ccd (lawCells cT cL cP cM))) Q E s := by
  k_with_none
  w_top off
  change wpAny _ (PySem.Around.deeper callerA (envX _ (PySem.Scope.mk _ _ _ _ _) _ _ _ _)) (execs (_ :: _) (envX _ (PySem.Scope.mk _ _ _ _ _) _ _ _ _)) _ _ _
  k_steps
  refine ⟨?_⟩
  refine values_c _ _ _ _ _ _ _ _ _ _ _ _ _ _ _ _ _ _ B F X N T rfl (by decide) (by decide) ?_
  intro lv as kv h1 tk1 vled has F1 N1 hlv hlm hit
  have offA : OwnOff ((tl, W.listOf vs.toArray kt) :: (cT, oT) :: rest ++ vled) [st] := by
    intro q hq b hb
    rw [List.mem_singleton.mp hb]
    rcases List.mem_append.mp hq with hq | hq
    · rcases List.mem_cons.mp hq with rfl | hq
      · exact Nat.ne_of_gt hlt2
      · exact off _ hq _ (.head _)
    · exact Nat.ne_of_gt (hlv q hq _ (.head _))
  k_steps
  refine ⟨?_⟩
  refine next_c _ _ _ _ _ _ _ _ _ _ _ _ _ _ _ _ _ _ _ _ _ _ _ _ _ _ _ _ B (by assumption) X N1 T rfl (by assumption) (by omega) (by omega) (by decide) (by decide) (by omega) hlt offA (by decide) (by decide) ?_
  intro r t1 tc1 k1' h2 tk2 hr0 hr1 F2 N2
  clear N1 F1
  obtain ⟨b, hb⟩ : ∃ b, as[r.toNat]? = some b := ⟨_, List.getElem?_eq_getElem (by omega)⟩
  obtain ⟨val, tv, kd, tkd, hok, hbm⟩ := hit _ _ hb
  have hx : (as.map Value.ref)[r.toNat]? = some (.ref b) := by rw [List.getElem?_map, hb]; rfl
  have hr2 : Stop (r < 6) := ⟨hr1⟩
  have hr3 : r < 1000 := by omega
  clear hr1
  have hlm2 : (lv, W.listOf (as.map Value.ref).toArray kv) ∈ rest ++ vled := List.mem_append_right _ hlm
  have hbm2 : (b, tup2 val tv kd tkd) ∈ rest ++ vled := List.mem_append_right _ hbm
  have hT0 : (cT, oT) ∈ (cT, oT) :: (rest ++ vled) := .head _
  replace N2 : News base L h2 ((st, W.listOf #[.ref lD, .int (c + 1) tc1] k1') :: (lD, W.listOf ws.toArray k2) :: (tl, W.listOf vs.toArray kt) :: (cT, oT) :: (rest ++ vled)) := N2
  k_steps
  refine item_mem N2 (.tail _ (.tail _ (.tail _ (.tail _ hlm2)))) hr0 (by omega) hx ?_ (by with_unfolding_all rfl) (by intro _; with_unfolding_all rfl)
  k_steps
  refine ⟨?_⟩
  replace offA : OwnOff ((tl, W.listOf vs.toArray kt) :: (cT, oT) :: (rest ++ vled)) [st] := offA
  with_reducible rename News _ _ _ _ => hN1
  refine next_c _ _ _ _ _ _ _ _ _ _ _ _ _ _ _ _ _ _ _ _ _ _ _ _ _ _ _ _ B (by assumption) X hN1 T rfl (by assumption) (by omega) (by omega) (by decide) (by decide) (by omega) hlt offA (by decide) (by decide) ?_
  intro li t2 tc2 k2' h3 tk3 hl0 hl1 F3 N3
  clear hN1
  k_steps
  refine ⟨?_⟩
  with_reducible rename News _ _ _ _ => hN1
  refine next_c _ _ _ _ _ _ _ _ _ _ _ _ _ _ _ _ _ _ _ _ _ _ _ _ _ _ _ _ B (by assumption) X hN1 T rfl (by assumption) (by omega) (by omega) (by decide) (by decide) (by omega) hlt offA (by decide) (by decide) ?_
  intro co t3 tc3 k3' h4 tk4 hc0 hc1 F4 N4
  clear hN1
  k_steps
  refine ⟨?_⟩
  with_reducible rename News _ _ _ _ => hN1
  refine leaf_c _ _ _ _ _ _ _ _ _ _ _ _ _ _ _ _ _ _ _ _ _ _ _ _ _ _ _ _ _ _ _ _ _ _ _ B (by assumption) X hN1 T hok.2.1 (by have := hok.2.2; omega) (by decide) (by decide) ?_
  intro x d nd D on e1 e2 e3 e4 e5 e6 e7 en h5 tk5 F5 N5 hno hAl ho1 ho2 ho3 ho4 ho5
  clear hN1
  have N6 : News base L h5 ((nd, on) :: (x, instObj 329 d) :: (d, dictOf (leafEs w.params e1 e2 e3 e4 e5 e6 e7 nd D _ _ _ _ _ _ kd tkd val tv) en) :: (st, W.listOf #[.ref lD, .int (c + 1 + 1 + 1) tc3] k3') :: (lD, W.listOf ws.toArray k2) :: (tl, W.listOf vs.toArray kt) :: (cT, oT) :: (rest ++ vled)) := fun q hq => N5 q (by
    rcases List.mem_cons.mp hq with rfl | hq
    · exact .tail _ (.head _)
    rcases List.mem_cons.mp hq with rfl | hq
    · exact .tail _ (.tail _ (.head _))
    rcases List.mem_cons.mp hq with rfl | hq
    · exact .tail _ (.tail _ (.tail _ (.head _)))
    · exact .tail _ (.tail _ (.tail _ (.tail _ (.tail _ (.tail _ hq))))))
  clear N5
  k_steps
  refine ⟨?_⟩
  refine ftok_c _ _ _ _ _ _ _ _ _ _ _ _ _ _ _ _ _ _ _ _ _ _ _ _ _ _ _ _ _ _ _ _ _ _ _ _ _ _ _ _ _ _ _ _ _ _ B (by assumption) X N6 T hok.2.1 hok.2.2 (by omega) (by omega) hc0 (by omega) (okV_len hok.1) hno ho3 (by decide) (by decide) ?_
  intro t h6 tk6 e1 e2 e3 e4 e5 e6 F6 N7
  clear N6
  have hA2 := tb_ltOf hAl
  have N8 : News base L h6 ((tl, W.listOf vs.toArray kt) :: (cT, oT) :: (st, W.listOf #[.ref lD, .int (c + 1 + 1 + 1) tc3] k3') :: (lD, W.listOf ws.toArray k2) :: (t.led .none .none ++ rest)) := fun q hq => N7 q (by
    rcases List.mem_cons.mp hq with rfl | hq
    · exact List.mem_append_right _ (.tail _ (.tail _ (.head _)))
    rcases List.mem_cons.mp hq with rfl | hq
    · exact List.mem_append_right _ (.tail _ (.tail _ (.tail _ (.head _))))
    rcases List.mem_cons.mp hq with rfl | hq
    · exact List.mem_append_right _ (.head _)
    rcases List.mem_cons.mp hq with rfl | hq
    · exact List.mem_append_right _ (.tail _ (.head _))
    rcases List.mem_append.mp hq with hq | hq
    · exact List.mem_append_left _ hq
    · exact List.mem_append_right _ (.tail _ (.tail _ (.tail _ (.tail _ (List.mem_append_left _ hq))))))
  have hofT : OwnOff ((cT, oT) :: (st, W.listOf #[.ref lD, .int (c + 1 + 1 + 1) tc3] k3') :: (lD, W.listOf ws.toArray k2) :: (t.led .none .none ++ rest)) [tl] := by
    intro q hq b hb
    rw [List.mem_singleton.mp hb]
    rcases List.mem_cons.mp hq with rfl | hq
    · exact off2 _ (.head _) _ (.head _)
    rcases List.mem_cons.mp hq with rfl | hq
    · exact Nat.ne_of_lt hlt2
    rcases List.mem_cons.mp hq with rfl | hq
    · exact Nat.ne_of_lt (Nat.lt_trans hlt hlt2)
    rcases List.mem_append.mp hq with hq | hq
    · have h1 : @LT.lt Nat _ tl t.lfd := by
        rw [e2]
        exact hA2 (tl, W.listOf vs.toArray kt) (.tail _ (.tail _ (.head _)))
      have h2 := Tk.led_addr hq
      have o1 := t.o1; have o2 := t.o2; have o3 := t.o3
      refine Nat.ne_of_gt ?_
      rcases h2 with h2 | h2 | h2 | h2 <;> (rw [h2]; first | exact h1 | exact Nat.lt_trans h1 o1 | exact Nat.lt_trans h1 (Nat.lt_trans o1 o2) | exact Nat.lt_trans h1 (Nat.lt_trans o1 (Nat.lt_trans o2 o3)))
    · exact off2 _ (.tail _ hq) _ (.head _)
  have hltd : AllLt t.lfd ((st, W.listOf #[.ref lD, .int (c + 1 + 1 + 1) tc3] k3') :: (lD, W.listOf ws.toArray k2) :: (tl, W.listOf vs.toArray kt) :: (cT, oT) :: rest) := allLt_of fun q hq => by
    rw [e2]
    refine hA2 q ?_
    simp only [List.mem_cons, List.mem_append] at hq ⊢
    rcases hq with h | h | h | h | h
    · exact .inl h
    · exact .inr (.inl h)
    · exact .inr (.inr (.inl h))
    · exact .inr (.inr (.inr (.inl h)))
    · exact .inr (.inr (.inr (.inr (.inl h))))
  have hokv : okV t.val := e3 ▸ hok.1
  generalize hRR : t.led .none .none ++ rest = RR at *
  clear N7
  k_steps
  with_reducible rename News _ _ _ _ => hN1
  with_reducible rename Fr _ _ _ _ => hF1
  rw [List.push_toArray] at hN1
  subst hRR
  exact hret t tc3 k3' _ _ _ _ hokv hltd hF1 (fun z h1 h2 h3 => by simp [h1, h2, h3]) hN1
end Mine
end
section
open PySem PySem.W PyProof.Rows PySem.Spec PySem.Calls
namespace Mine
local macro_rules | `(tactic| k_room) => `(tactic| (simp only [depth_under_make, depth_under_kw, depth_in1, depth_deeper, depth_caller, ktrTop]; omega))
local macro_rules | `(tactic| k_mem) => `(tactic| first | assumption | (refine List.mem_append_left _ ?_; assumption))
local macro_rules | `(tactic| walk_at "call builtin:len") => `(tactic| (k_here; (with_reducible show wpAny _ _ (call (Value.builtin _) [Value.ref _]) _ _ _); k_dflt (refine' len_mem ?N ?h ?n ?z ?_; (case N => k_asm); (case h => k_mem); (case n => with_reducible assumption); (case z => omega))))
local macro_rules | `(tactic| walk_at "subscriptTail Name Name ref int") => `(tactic| (k_here; (with_reducible show wpAny _ _ (subscriptTail _ _ (Value.ref _) (Value.int _ _)) _ _ _); k_dflt (refine' item_mem ?N ?h ?z ?y ?x ?_ ?s ?g; (case N => k_asm); (case h => k_mem); (case z => omega); (case y => omega); (case x => assumption); (case s => with_unfolding_all rfl); (case g => (intro _; with_unfolding_all rfl)))))
local macro_rules | `(tactic| walk_at "subscriptTail Name BinOp ref int") => `(tactic| (k_here; (with_reducible show wpAny _ _ (subscriptTail _ _ (Value.ref _) (Value.int _ _)) _ _ _); k_dflt (refine' item_mem ?N ?h ?z ?y ?x ?_ ?s ?g; (case N => k_asm); (case h => k_mem); (case z => omega); (case y => omega); (case x => assumption); (case s => with_unfolding_all rfl); (case g => (intro _; with_unfolding_all rfl)))))
local macro_rules | `(tactic| walk_at "truthy ref") => `(tactic| (k_here; k_dflt (refine' truthy_mem ?N ?h ?n ?z ?b ?_; (case N => k_asm); (case h => k_mem); (case n => with_reducible assumption); (case z => omega); (case b => assumption))))
local macro_rules | `(tactic| walk_at "setAttr ref") => `(tactic| (k_here; (with_reducible show wpAny _ _ (setAttr (Value.ref _) (Str.ofString "previous_token") _) _ _ _); k_dflt (refine' set_prev ?F ?X ?N ?m ?U ?_; (case F => k_asm); (case X => k_asm); (case N => k_asm); (case m => k_mem); (case U => k_upd)); intro h' F' N'; (try k_sweep)))
local macro_rules | `(tactic| walk_at "setAttr ref") => `(tactic| (k_here; (with_reducible show wpAny _ _ (setAttr (Value.ref _) (Str.ofString "next_token") _) _ _ _); k_dflt (refine' set_next ?F ?X ?N ?m ?U ?_; (case F => k_asm); (case X => k_asm); (case N => k_asm); (case m => k_mem); (case U => k_upd)); intro h' F' N'; (try k_sweep)))
local macro_rules | `(tactic| walk_at "getAttr ref") => `(tactic| (k_here; k_dflt (refine' get_own ?k1 ?k2 ?k3 ?k4 ?k5 ?k6 ?k7 ?k8 ?k9 ?_; (case k1 => k_asm); (case k2 => k_asm); (case k3 => k_inst); (case k4 => k_is); (case k5 => k_is); (case k6 => k_is); (case k7 => k_is); (case k8 => assumption); (case k9 => k_handed); k_whole)))
local macro_rules | `(tactic| walk_at "call ref") => `(tactic| (k_here; k_dflt (first
  | (refine' call_cls ?k1 ?k2 ?k3 ?k4 ?k5 ?k6 ?_; (case k1 => k_asm); (case k2 => k_asm); (case k3 => k_asm); (case k4 => k_is); (case k5 => k_is); (case k6 => k_is); k_whole; intro x' d' h' F' N' l1 l2; (try k_lt l1); (try k_lt2 l2); (try k_sweep); k_enter)
  | (refine' call_meth ?k1 ?k2 ?_; (case k1 => k_asm); (case k2 => k_mem); k_whole; k_enter)
  | (refine wpAny_call ?_; k_enter))))

local macro_rules | `(tactic| walk_at "call ref") => `(tactic| (k_here; (with_reducible show wpAny _ _ (call (Value.ref 504) _) _ _ _); refine stop_here ?_))
local macro_rules | `(tactic| walk_at "call ref") => `(tactic| (k_here; (with_reducible show wpAny _ _ (call (Value.ref 329) _) _ _ _); refine stop_here ?_))
local macro_rules | `(tactic| walk_at "call ref") => `(tactic| (k_here; (with_reducible show wpAny _ _ (call (Value.ref 486) _) _ _ _); refine stop_here ?_))
local macro_rules | `(tactic| walk_at "call ref") => `(tactic| (k_here; (with_reducible show wpAny _ _ (call (Value.ref 132) _) _ _ _); refine stop_here ?_))
local macro_rules | `(tactic| walk_at "call ref") => `(tactic| (k_here; (with_reducible show wpAny _ _ (call (Value.ref 518) _) _ _ _); refine stop_here ?_))
local macro_rules | `(tactic| walk_at "call ref") => `(tactic| (k_here; (with_reducible show wpAny _ _ (call (Value.ref 74) _) _ _ _); refine stop_here ?_))
local macro_rules | `(tactic| walk_at "call ref") => `(tactic| (k_here; (with_reducible show wpAny _ _ (call (Value.ref 511) _) _ _ _); refine stop_here ?_))
local macro_rules | `(tactic| walk_at "call ref") => `(tactic| (k_here; (with_reducible show wpAny _ _ (call (Value.ref 525) _) _ _ _); refine stop_here ?_))
local macro_rules | `(tactic| walk_at "getAttr ref") => `(tactic| (k_here; (with_reducible show wpAny _ _ (getAttr (Value.ref _) (Str.ofString "has_semicolon") _) _ _ _); k_dflt (refine' get_prop ?k1 ?k2 ?k3 ?k4 ?k5 ?k6 ?k7 ?k8 ?k9 ?_; (case k1 => k_asm); (case k2 => k_asm); (case k3 => k_inst); (case k4 => k_is); (case k5 => k_is); (case k6 => k_is); (case k7 => k_is); (case k8 => k_is); (case k9 => k_is); k_whole; refine stop_here ?_)))
local macro_rules | `(tactic| walk_at "getMethod ref") => `(tactic| (k_here; k_dflt (refine' method_inst ?k1 ?k2 ?k3 ?k4 ?k5 ?k6 ?k7 ?_; (case k1 => k_asm); (case k2 => k_asm); (case k3 => k_inst); (case k4 => k_is); (case k5 => k_is); (case k6 => k_is); (case k7 => assumption); k_whole)))
local macro_rules | `(tactic| walk_at "eval ListComp") => `(tactic| (k_here; k_dflt (refine LCg.ListComp_U (F₀ := by k_asm) (by with_unfolding_all rfl) (by decide) (by rfl) (by decide) (by rfl) ?_)))
local macro_rules | `(tactic| walk_at "exec Assign cons ListComp") => `(tactic| (k_here; k_dflt (refine LCg.Assign_ListComp_U (F₀ := by k_asm) (by rfl) (by with_unfolding_all rfl) (by with_unfolding_all rfl) (by decide) (by rfl) (by decide) (by rfl) (by rfl) (by rfl) ?_)))
local macro_rules | `(tactic| walk_at "CompSrc") => `(tactic| refine stop_here ?_)
local macro_rules | `(tactic| walk_at "FinA") => `(tactic| refine stop_here ?_)
local macro_rules | `(tactic| walk_at "FinE") => `(tactic| refine stop_here ?_)
local macro_rules | `(tactic| walk_at "execs cons") => `(tactic| (k_here; (with_reducible show wpAny _ _ (execs (PySem.Stmt.If _ _ _ _ :: _) _) _ _ _); refine stop_here ?_))
local macro_rules | `(tactic| walk_at "call builtin:str.join") => `(tactic| refine stop_here ?_)
local macro_rules | `(tactic| walk_at "binaryOp Add str str") => `(tactic| (k_here; (with_reducible show wpAny _ _ (binaryOp Operator.Add (Value.str _ _) (Value.str _ _)) _ _ _); (refine' add_str' ?h1 ?h2 ?_; (case h1 => assumption); (case h2 => assumption)); intro _ _))
theorem fillA {w : World} {h₀ : Heap} (X : (hd.heap_39 w.params).In h₀) : (hd.heap_39 w.params).In h₀ ∧ PySem.Challenge.rw_bu5043_01 = PySem.Challenge.rw_bu5043_01 := by
  k_fill
  exact ⟨X, rfl⟩
theorem segA_c {w : World} {p : Program} {loose : List Str} {mean : ExcName → Option Value} {mg mb : Str → Option Value} (base : Heap) (L a : Addr) (ccd : Value) (cT cL cP cM tl : Addr) (oT oL : Obj) (kt : Nat) (m : Str → Option Value) (s : Shared) (Q : Flow → Shared → Prop) (E : Value → Shared → Prop)
    (dep : Int) (dt : Tok) (ts : List (Tk w.params)) (news R : Led)
    (B : Below callerA base [] base) (X : (hd.heap_39 w.params).In base) (T : Top p loose mean mg mb base)
    (F : Fr base L s.heap (fun y => if y = Str.ofString "depth" then some (.int dep dt) else m y))
    (N : News base L s.heap ((cL, oL) :: news)) (dL : oL.data = .cell none) (hoL : OwnOff news [cL])
    (dT : oT.data = .cell (some (.ref tl))) (hd0 : 0 ≤ dep) (hd1 : dep ≤ 3)
    (hti : TIn ts (fun _ => .none) (fun _ => .none) news) (hS : Sep ts) (hn : Stop (ts.length ≤ 8))
    (hR : ∀ q ∈ R, q ∈ news) (hRT : OffT ts R) (hcT : (cT, oT) ∈ R) (hl : (tl, W.listOf (ts.map fun t => Value.ref t.a).toArray kt) ∈ R)
    (hret : ∀ (x : Ln w.params) (rl : Addr) kr k' oL' tc h' tk' news', x.dep = dep → oL'.data = .cell (some (.ref x.a)) →
      Fr base L h' (fun y => if y = Str.ofString "code" then some (.str (Txt.mul (Str.ofString " ") (2 * dep) ++ Txt.join (Str.ofString " ") (ts.map fun t => t.val)) tc) else if y = Str.ofString "row" then some (.ref rl) else if y = Str.ofString "depth" then some (.int dep dt) else m y) →
      News base L h' ((cL, oL') :: news') → OwnOff news' [cL] → TIn ts (pv0 ts) (nx0 ts) news' → (∀ q ∈ R, q ∈ news') → (∀ q ∈ x.led, q ∈ news') → (∀ t ∈ ts, x.d ≠ t.d) → (x.l, W.listOf (ts.map fun t => Value.ref t.a).toArray k') ∈ news' → (rl, W.listOf (ts.map fun t => Value.str t.val t.vt).toArray kr) ∈ news' →
      wpAny (model pr w) (callerA.deeper (lawEnv L a ccd (lawCells cT cL cP cM))) (execs (lawFrom 7) (lawEnv L a ccd (lawCells cT cL cP cM))) Q E { s with heap := h', toks := tk' }) :
    wpAny (model pr w) (callerA.deeper (lawEnv L a ccd (lawCells cT cL cP cM))) (execs (lawFrom 4) (lawEnv L a ccd (lawCells cT cL cP cM))) Q E s := by
  k_with_none
  w_top off
  change wpAny _ (PySem.Around.deeper callerA (envX _ (PySem.Scope.mk _ _ _ _ _) _ _ _ _)) (execs (_ :: _) (envX _ (PySem.Scope.mk _ _ _ _ _) _ _ _ _)) _ _ _
  have hcTn := hR _ hcT
  have hln := hR _ hl
  have hvl : (ts.map fun t => Value.ref t.a).length = ts.length := List.length_map _
  k_steps
  refine ⟨?_⟩
  refine src_list (fun i y => ∃ t, ts[i]? = some t ∧ y = .str t.val t.vt) rfl F N (.tail _ hln) (by rw [hvl]; have := hn.out; omega) ?_ ?_
  rotate_left
  · intro i v I oI C oC D ys m₂ h tk E' Q' hv hC hx F' N' hq
    rw [List.getElem?_map] at hv
    obtain ⟨t, hti2, rfl⟩ := Option.map_eq_some_iff.mp hv
    have m1 : (t.a, instObj 486 t.d) ∈ news := hti i t hti2 _ (by simp [Tk.led])
    have m2 : (t.d, dictOf (t.es .none .none) t.cnt) ∈ news := hti i t hti2 _ (by simp [Tk.led])
    have g1 := t.gval .none .none
    clear N F
    k_steps
    exact hq _ _ _ ⟨t, hti2, rfl⟩ (by assumption) (by assumption)
  intro g ys hy1 hy2 rl h1 tk1 F1 N1 o1
  rw [hvl] at hy1
  obtain rfl := list_told hy1 hy2
  clear F N hy1 hy2 o1
  replace N1 : News base L h1 ((rl, W.listOf (ts.map fun t => Value.str t.val t.vt).toArray ts.length) :: (cL, oL) :: news) := by
    have e : ts.length = (ts.map fun t => Value.str t.val t.vt).length := (List.length_map _).symm
    rw [e]; exact N1
  k_steps
  refine ⟨?_⟩
  refine src_list (fun i y => ∃ t, ts[i]? = some t ∧ y = .ref t.a) rfl F1 N1 (.tail _ (.tail _ hln)) (by rw [hvl]; have := hn.out; omega) ?_ ?_
  rotate_left
  · intro i v I oI C oC D ys m₂ h tk E' Q' hv hC hx F' N' hq
    rw [List.getElem?_map] at hv
    obtain ⟨t, hti2, rfl⟩ := Option.map_eq_some_iff.mp hv
    clear N1 F1
    k_steps
    exact hq _ _ _ ⟨t, hti2, rfl⟩ (by assumption) (by assumption)
  intro g ys hy1 hy2 D2 h2 tk2 F2 N2 o2
  rw [hvl] at hy1
  obtain rfl := list_told hy1 hy2
  clear F1 N1 hy1 hy2 o2
  replace N2 : News base L h2 ((D2, W.listOf (ts.map fun t => Value.ref t.a).toArray ts.length) :: (rl, W.listOf (ts.map fun t => Value.str t.val t.vt).toArray ts.length) :: (cL, oL) :: news) := by
    have e : ts.length = (ts.map fun t => Value.ref t.a).length := hvl.symm
    rw [show (LCg.lst (ts.map fun t => Value.ref t.a)) = W.listOf (ts.map fun t => Value.ref t.a).toArray ts.length by rw [← hvl]] at N2
    exact N2
  have hdm : ∀ t ∈ ts, ∃ o, (t.d, o) ∈ (D2, W.listOf (ts.map fun t => Value.ref t.a).toArray ts.length) :: (rl, W.listOf (ts.map fun t => Value.str t.val t.vt).toArray ts.length) :: (cL, oL) :: news ∧ (∃ es c, o = dictOf es c) := fun t ht => by
    obtain ⟨i, hi⟩ := List.mem_iff_getElem?.mp ht
    exact ⟨_, .tail _ (.tail _ (.tail _ (hti i t hi (t.d, dictOf (t.es .none .none) t.cnt) (by simp [Tk.led])))), _, _, rfl⟩
  have hRT2 : OffT ts ((D2, W.listOf (ts.map fun t => Value.ref t.a).toArray ts.length) :: (rl, W.listOf (ts.map fun t => Value.str t.val t.vt).toArray ts.length) :: (cL, oL) :: R) := by
    intro q hq t ht
    obtain ⟨o, ho, es, c, rfl⟩ := hdm t ht
    rcases List.mem_cons.mp hq with rfl | hq
    · exact ne_of_obj N2 (.head _) ho (by intro e; cases e)
    rcases List.mem_cons.mp hq with rfl | hq
    · exact ne_of_obj N2 (.tail _ (.head _)) ho (by intro e; cases e)
    rcases List.mem_cons.mp hq with rfl | hq
    · exact ne_of_obj N2 (.tail _ (.tail _ (.head _))) ho (by rw [dL]; intro e; cases e)
    · exact hRT q hq t ht
  k_steps
  refine ⟨?_⟩
  refine ctor_c _ _ _ _ _ _ _ _ _ _ _ _ _ _ _ _ _ _ _ _ D2 ts.length dep dt ts _ B (by assumption) X N2 T ((D2, W.listOf (ts.map fun t => Value.ref t.a).toArray ts.length) :: (rl, W.listOf (ts.map fun t => Value.str t.val t.vt).toArray ts.length) :: (cL, oL) :: R) ?_ hRT2 (.head _) (fun i t hi q hq => .tail _ (.tail _ (.tail _ (hti i t hi q hq)))) hS hn.out (by decide) (by decide) ?_
  · intro q hq
    rcases List.mem_cons.mp hq with rfl | hq
    · exact .head _
    rcases List.mem_cons.mp hq with rfl | hq
    · exact .tail _ (.head _)
    rcases List.mem_cons.mp hq with rfl | hq
    · exact .tail _ (.tail _ (.head _))
    · exact .tail _ (.tail _ (.tail _ (hR q hq)))
  intro x led' k' h3 tk3 hxd F3 N3 hti3 hR3 hx3 hl3 hxo3
  have hcL : (cL, oL) ∈ led' := hR3 _ (.tail _ (.tail _ (.head _)))
  have N4 := focus0 N3 hcL
  have ho4 : OwnOff (offs led' [cL]) [cL] := offs_off _ _
  have cne : ∀ q : Addr × Obj, q ∈ led' → (∀ v, q.2.data ≠ .cell v) → q ∈ offs led' [cL] := fun q hq hc => mem_foc N3 hcL hq (cell_ne dL hc)
  have hrl : (rl, W.listOf (ts.map fun t => Value.str t.val t.vt).toArray ts.length) ∈ offs led' [cL] := cne _ (hR3 _ (.tail _ (.head _))) (by intro v e; cases e)
  have hRo : ∀ q ∈ R, q ∈ offs led' [cL] := fun q hq => mem_offs (hR3 _ (.tail _ (.tail _ (.tail _ hq)))) (fun e => hoL q (hR q hq) cL (.head _) (List.mem_singleton.mp e))
  clear N2 F2
  k_steps
  refine ⟨?_⟩
  with_reducible rename News _ _ _ _ => hN5
  refine join_list (isl_mem hN5 (.tail _ hrl)) (strs_are ts) ?_ ?_
  · have h1 := sum_vals ts
    have := hn.out
    have e : (Str.ofString " ").length = 1 := by decide
    rw [e, List.length_map]; omega
  intro t' tk'
  have hz1 : (Txt.mul (Str.ofString " ") (2 * dep)).length ≤ 1000 := by omega
  have hz2 := join_vals_len ts hn.out
  k_steps
  refine ⟨?_⟩
  with_reducible rename News _ _ _ _ => hN6
  with_reducible rename Fr _ _ _ _ => hF6
  exact hret x rl ts.length k' _ _ _ _ _ hxd (by assumption) hF6 hN6 ho4 (fun i t hi q hq => cne q (hti3 i t hi q hq) (tk_data hq)) hRo (fun q hq => cne q (hx3 q hq) (ln_data hq)) hxo3 (cne _ hl3 (by intro v e; cases e)) hrl
end Mine
end
section
open PySem PySem.W PyProof.Rows PySem.Spec PySem.Calls
namespace Mine
local macro_rules | `(tactic| k_room) => `(tactic| (simp only [depth_under_make, depth_under_kw, depth_in1, depth_deeper, depth_caller, ktrTop]; omega))
local macro_rules | `(tactic| k_mem) => `(tactic| first | assumption | (refine List.mem_append_left _ ?_; assumption))
local macro_rules | `(tactic| walk_at "call builtin:len") => `(tactic| (k_here; (with_reducible show wpAny _ _ (call (Value.builtin _) [Value.ref _]) _ _ _); k_dflt (refine' len_mem ?N ?h ?n ?z ?_; (case N => k_asm); (case h => k_mem); (case n => with_reducible assumption); (case z => omega))))
local macro_rules | `(tactic| walk_at "subscriptTail Name Name ref int") => `(tactic| (k_here; (with_reducible show wpAny _ _ (subscriptTail _ _ (Value.ref _) (Value.int _ _)) _ _ _); k_dflt (refine' item_mem ?N ?h ?z ?y ?x ?_ ?s ?g; (case N => k_asm); (case h => k_mem); (case z => omega); (case y => omega); (case x => assumption); (case s => with_unfolding_all rfl); (case g => (intro _; with_unfolding_all rfl)))))
local macro_rules | `(tactic| walk_at "subscriptTail Name BinOp ref int") => `(tactic| (k_here; (with_reducible show wpAny _ _ (subscriptTail _ _ (Value.ref _) (Value.int _ _)) _ _ _); k_dflt (refine' item_mem ?N ?h ?z ?y ?x ?_ ?s ?g; (case N => k_asm); (case h => k_mem); (case z => omega); (case y => omega); (case x => assumption); (case s => with_unfolding_all rfl); (case g => (intro _; with_unfolding_all rfl)))))
local macro_rules | `(tactic| walk_at "truthy ref") => `(tactic| (k_here; k_dflt (refine' truthy_mem ?N ?h ?n ?z ?b ?_; (case N => k_asm); (case h => k_mem); (case n => with_reducible assumption); (case z => omega); (case b => assumption))))
local macro_rules | `(tactic| walk_at "setAttr ref") => `(tactic| (k_here; (with_reducible show wpAny _ _ (setAttr (Value.ref _) (Str.ofString "previous_token") _) _ _ _); k_dflt (refine' set_prev ?F ?X ?N ?m ?U ?_; (case F => k_asm); (case X => k_asm); (case N => k_asm); (case m => k_mem); (case U => k_upd)); intro h' F' N'; (try k_sweep)))
local macro_rules | `(tactic| walk_at "setAttr ref") => `(tactic| (k_here; (with_reducible show wpAny _ _ (setAttr (Value.ref _) (Str.ofString "next_token") _) _ _ _); k_dflt (refine' set_next ?F ?X ?N ?m ?U ?_; (case F => k_asm); (case X => k_asm); (case N => k_asm); (case m => k_mem); (case U => k_upd)); intro h' F' N'; (try k_sweep)))
local macro_rules | `(tactic| walk_at "getAttr ref") => `(tactic| (k_here; k_dflt (refine' get_own ?k1 ?k2 ?k3 ?k4 ?k5 ?k6 ?k7 ?k8 ?k9 ?_; (case k1 => k_asm); (case k2 => k_asm); (case k3 => k_inst); (case k4 => k_is); (case k5 => k_is); (case k6 => k_is); (case k7 => k_is); (case k8 => assumption); (case k9 => k_handed); k_whole)))
local macro_rules | `(tactic| walk_at "call ref") => `(tactic| (k_here; k_dflt (first
  | (refine' call_cls ?k1 ?k2 ?k3 ?k4 ?k5 ?k6 ?_; (case k1 => k_asm); (case k2 => k_asm); (case k3 => k_asm); (case k4 => k_is); (case k5 => k_is); (case k6 => k_is); k_whole; intro x' d' h' F' N' l1 l2; (try k_lt l1); (try k_lt2 l2); (try k_sweep); k_enter)
  | (refine' call_meth ?k1 ?k2 ?_; (case k1 => k_asm); (case k2 => k_mem); k_whole; k_enter)
  | (refine wpAny_call ?_; k_enter))))

local macro_rules | `(tactic| walk_at "call ref") => `(tactic| (k_here; (with_reducible show wpAny _ _ (call (Value.ref 504) _) _ _ _); refine stop_here ?_))
local macro_rules | `(tactic| walk_at "call ref") => `(tactic| (k_here; (with_reducible show wpAny _ _ (call (Value.ref 329) _) _ _ _); refine stop_here ?_))
local macro_rules | `(tactic| walk_at "call ref") => `(tactic| (k_here; (with_reducible show wpAny _ _ (call (Value.ref 486) _) _ _ _); refine stop_here ?_))
local macro_rules | `(tactic| walk_at "call ref") => `(tactic| (k_here; (with_reducible show wpAny _ _ (call (Value.ref 132) _) _ _ _); refine stop_here ?_))
local macro_rules | `(tactic| walk_at "call ref") => `(tactic| (k_here; (with_reducible show wpAny _ _ (call (Value.ref 518) _) _ _ _); refine stop_here ?_))
local macro_rules | `(tactic| walk_at "call ref") => `(tactic| (k_here; (with_reducible show wpAny _ _ (call (Value.ref 74) _) _ _ _); refine stop_here ?_))
local macro_rules | `(tactic| walk_at "call ref") => `(tactic| (k_here; (with_reducible show wpAny _ _ (call (Value.ref 511) _) _ _ _); refine stop_here ?_))
local macro_rules | `(tactic| walk_at "call ref") => `(tactic| (k_here; (with_reducible show wpAny _ _ (call (Value.ref 525) _) _ _ _); refine stop_here ?_))
local macro_rules | `(tactic| walk_at "getAttr ref") => `(tactic| (k_here; (with_reducible show wpAny _ _ (getAttr (Value.ref _) (Str.ofString "has_semicolon") _) _ _ _); k_dflt (refine' get_prop ?k1 ?k2 ?k3 ?k4 ?k5 ?k6 ?k7 ?k8 ?k9 ?_; (case k1 => k_asm); (case k2 => k_asm); (case k3 => k_inst); (case k4 => k_is); (case k5 => k_is); (case k6 => k_is); (case k7 => k_is); (case k8 => k_is); (case k9 => k_is); k_whole; refine stop_here ?_)))
local macro_rules | `(tactic| walk_at "getMethod ref") => `(tactic| (k_here; k_dflt (refine' method_inst ?k1 ?k2 ?k3 ?k4 ?k5 ?k6 ?k7 ?_; (case k1 => k_asm); (case k2 => k_asm); (case k3 => k_inst); (case k4 => k_is); (case k5 => k_is); (case k6 => k_is); (case k7 => assumption); k_whole)))
local macro_rules | `(tactic| walk_at "eval ListComp") => `(tactic| (k_here; k_dflt (refine LCg.ListComp_U (F₀ := by k_asm) (by with_unfolding_all rfl) (by decide) (by rfl) (by decide) (by rfl) ?_)))
local macro_rules | `(tactic| walk_at "exec Assign cons ListComp") => `(tactic| (k_here; k_dflt (refine LCg.Assign_ListComp_U (F₀ := by k_asm) (by rfl) (by with_unfolding_all rfl) (by with_unfolding_all rfl) (by decide) (by rfl) (by decide) (by rfl) (by rfl) (by rfl) ?_)))
local macro_rules | `(tactic| walk_at "CompSrc") => `(tactic| refine stop_here ?_)
local macro_rules | `(tactic| walk_at "FinA") => `(tactic| refine stop_here ?_)
local macro_rules | `(tactic| walk_at "FinE") => `(tactic| refine stop_here ?_)
local macro_rules | `(tactic| walk_at "execs cons") => `(tactic| (k_here; (with_reducible show wpAny _ _ (execs (PySem.Stmt.If _ _ _ _ :: _) _) _ _ _); refine stop_here ?_))
local macro_rules | `(tactic| walk_at "compareOp In str ref") => `(tactic| refine stop_here ?_)
/-- what segment B keeps -/
structure BK {P : Params} (ts : List (Tk P)) (x : Ln P) (rl : Addr) (kl kr : Nat) (R nx : Led) : Prop where
  x1 : (x.a, instObj 132 x.d) ∈ nx
  x2 : (x.d, dictOf x.es x.cnt) ∈ nx
  xl : (x.l, W.listOf (ts.map fun t => Value.ref t.a).toArray kl) ∈ nx
  rl : (rl, W.listOf (ts.map fun t => Value.str t.val t.vt).toArray kr) ∈ nx
  ti : TIn ts (pv0 ts) (nx0 ts) nx
  R : ∀ q ∈ R, q ∈ nx
theorem BK.mono {P : Params} {ts : List (Tk P)} {x : Ln P} {rl : Addr} {kl kr : Nat} {R nx nx' : Led} (H : BK ts x rl kl kr R nx) (h : ∀ q ∈ nx, q.2.cls ≠ Value.none ∨ q ∈ R → q ∈ nx') : BK ts x rl kl kr R nx' :=
  ⟨h _ H.x1 (.inl (by intro e; cases e)), h _ H.x2 (.inl (by intro e; cases e)), h _ H.xl (.inl (by intro e; cases e)), h _ H.rl (.inl (by intro e; cases e)), fun i t hi q hq => h q (H.ti i t hi q hq) (.inl (tk_cls hq)), fun q hq => h q (H.R q hq) (.inr hq)⟩
theorem BK.xs {P : Params} {ts : List (Tk P)} {x : Ln P} {rl : Addr} {kl kr : Nat} {R nx : Led} (H : BK ts x rl kl kr R nx) : ∀ q ∈ x.led, q ∈ nx := fun q hq => by
  rcases List.mem_cons.mp hq with rfl | hq
  · exact H.x1
  · rw [List.mem_singleton.mp hq]; exact H.x2
theorem PartsIn.keep {led led' : Led} {pl : Addr} {as : List Addr} {pp : List (List Nat)} (H : PartsIn led pl as pp) (h : ∀ q ∈ led, q.2.cls = .type "list" → q ∈ led') : PartsIn led' pl as pp :=
  ⟨let ⟨k, hm⟩ := H.mem; ⟨k, h _ hm rfl⟩, H.len, fun j a ns h1 h2 => let ⟨vs, k, hm, hi⟩ := H.each j a ns h1 h2; ⟨vs, k, h _ hm rfl, hi⟩, H.nodup⟩
/-- what stands behind segment B -/
structure PB {P : Params} (ts : List (Tk P)) (x : Ln P) (kl : Nat) (R : Led) (pl : Addr) (as : List Addr) (nx : Led) : Prop where
  x1 : (x.a, instObj 132 x.d) ∈ nx
  x2 : (x.d, dictOf x.es x.cnt) ∈ nx
  xl : (x.l, W.listOf (ts.map fun t => Value.ref t.a).toArray kl) ∈ nx
  R : ∀ q ∈ R, q ∈ nx
  pt : PartsIn nx pl as (partsU (semiAt ts) ts.length)
theorem PB.mono {P : Params} {ts : List (Tk P)} {x : Ln P} {kl : Nat} {R nx nx' : Led} {pl : Addr} {as : List Addr} (H : PB ts x kl R pl as nx) (hxo : ∀ t ∈ ts, x.d ≠ t.d) (hRT : OffT ts R) (h : ∀ q ∈ nx, q.2.cls ≠ Value.none ∨ q ∈ R → q.2.cls ≠ .type "dict" ∨ OffD ts q → q ∈ nx') : PB ts x kl R pl as nx' :=
  have hl : ¬ Value.type "list" = Value.type "dict" := fun e => absurd (Value.type.inj e) (by decide)
  ⟨h _ H.x1 (.inl (by intro e; cases e)) (.inl (by intro e; cases e)), h _ H.x2 (.inl (by intro e; cases e)) (.inr hxo), h _ H.xl (.inl (by intro e; cases e)) (.inl hl), fun q hq => h q (H.R q hq) (.inr hq) (.inr (hRT q hq)), H.pt.keep fun q hq hc => h q hq (.inl (by rw [hc]; intro e; cases e)) (.inl (by rw [hc]; exact hl))⟩
/-- what told is -/
inductive Told {P : Params} (ts : List (Tk P)) (x : Ln P) (nx : Led) : Value → Prop
  | one (D : Addr) (k : Nat) (h : (ts.any fun t => t.val == Str.ofString ";") = false) (hm : (D, W.listOf #[Value.ref x.a] k) ∈ nx) : Told ts x nx (.ref D)
  | many (pl : Addr) (ls : List (Ln P)) (k : Nat) (h : (ts.any fun t => t.val == Str.ofString ";") = true) (hne : ∀ ns ∈ dueU (semiAt ts) ts.length, ns ≠ []) (hL : LinesIn nx ts x.dep pl ls (dueU (semiAt ts) ts.length))
      (hm : (pl, W.listOf (ls.map fun z => Value.ref z.a).toArray k) ∈ nx) (hT : TIn ts (pvK ts (dueU (semiAt ts) ts.length)) (nxK ts (dueU (semiAt ts) ts.length)) nx) : Told ts x nx (.ref pl)
  | none (h : (ts.any fun t => t.val == Str.ofString ";") = true) (hex : ∃ ns ∈ dueU (semiAt ts) ts.length, ns = []) : Told ts x nx .none
theorem n69 {o : Obj} : @Ne Addr ((69 : Addr), o).1 123 := by show @Ne Nat 69 123; decide
theorem mul_two {dep : Int} (h0 : 0 ≤ dep) (h1 : dep ≤ 3) : Txt.mul (Str.ofString "  ") dep = Txt.mul (Str.ofString " ") (2 * dep) := by
  have : dep = 0 ∨ dep = 1 ∨ dep = 2 ∨ dep = 3 := by omega
  rcases this with rfl | rfl | rfl | rfl <;> decide +kernel
theorem fillB {w : World} {h₀ : Heap} (X : (hd.heap_39 w.params).In h₀) : (hd.heap_39 w.params).In h₀ ∧ PySem.Challenge.rw_bu5043_01 = PySem.Challenge.rw_bu5043_01 := by
  k_fill
  exact ⟨X, rfl⟩
abbrev tabP1 : Pos := ⟨50, 30, 50, 65⟩
abbrev tabP2 : Pos := ⟨78, 19, 78, 61⟩
theorem segB_c {w : World} {p : Program} {loose : List Str} {mean : ExcName → Option Value} {mg mb : Str → Option Value} (base : Heap) (L a : Addr) (ccd : Value) (cT cL cP cM tl rl : Addr) (oT oL : Obj) (kt kl kr : Nat) (m : Str → Option Value) (s : Shared) (Q : Flow → Shared → Prop) (E : Value → Shared → Prop)
    (dep : Int) (dt tc : Tok) (ts : List (Tk w.params)) (x : Ln w.params) (news R : Led) (ps1 ps2 : Array Value)
    (B : Below callerA base [] base) (X : (hd.heap_39 w.params).In base) (T : Top p loose mean mg mb base) (hg : AllBare s.gens)
    (F : Fr base L s.heap (fun y => if y = Str.ofString "code" then some (.str (Txt.mul (Str.ofString " ") (2 * dep) ++ Txt.join (Str.ofString " ") (ts.map fun t => t.val)) tc) else if y = Str.ofString "row" then some (.ref rl) else if y = Str.ofString "depth" then some (.int dep dt) else m y))
    (N : News base L s.heap news) (dL : oL.data = .cell (some (.ref x.a))) (hxd : x.dep = dep)
    (dT : oT.data = .cell (some (.ref tl))) (hd0 : 0 ≤ dep) (hd1 : dep ≤ 3)
    (hti : TIn ts (pv0 ts) (nx0 ts) news) (hS : Sep ts) (hn : Stop (ts.length ≤ 8))
    (hP1 : (69, tabO ps1) ∈ news) (hp1 : GTab tabP1 ps1) (hP2 : (123, tabO ps2) ∈ news) (hp2 : GTab tabP2 ps2)
    (hx : ∀ q ∈ x.led, q ∈ news) (hxl : (x.l, W.listOf (ts.map fun t => Value.ref t.a).toArray kl) ∈ news) (hrl : (rl, W.listOf (ts.map fun t => Value.str t.val t.vt).toArray kr) ∈ news)
    (hR : ∀ q ∈ R, q ∈ news ∧ q.1 ≠ 69 ∧ q.1 ≠ 123) (hRT : OffT ts R) (hcT : (cT, oT) ∈ R) (hcL : (cL, oL) ∈ R) (hl : (tl, W.listOf (ts.map fun t => Value.ref t.a).toArray kt) ∈ R) (hxo : ∀ t ∈ ts, x.d ≠ t.d)
    (hret : ∀ (pl : Addr) (as : List Addr) v s' nx' ps1' ps2', Told ts x nx' v → PB ts x kl R pl as nx' → AllBare s'.gens → s'.os = s.os → GTab tabP1 ps1' → GTab tabP2 ps2' → (69, tabO ps1') ∈ nx' → (123, tabO ps2') ∈ nx' → News base L s'.heap nx' →
      Fr base L s'.heap (fun y => if y = Str.ofString "told" then some v else if y = Str.ofString "parts" then some (.ref pl) else if y = Str.ofString "code" then some (.str (Txt.mul (Str.ofString " ") (2 * dep) ++ Txt.join (Str.ofString " ") (ts.map fun t => t.val)) tc) else if y = Str.ofString "row" then some (.ref rl) else if y = Str.ofString "depth" then some (.int dep dt) else m y) →
      wpAny (model pr w) (callerA.deeper (lawEnv L a ccd (lawCells cT cL cP cM))) (execs (lawFrom 10) (lawEnv L a ccd (lawCells cT cL cP cM))) Q E s') :
    wpAny (model pr w) (callerA.deeper (lawEnv L a ccd (lawCells cT cL cP cM))) (execs (lawFrom 7) (lawEnv L a ccd (lawCells cT cL cP cM))) Q E s := by
  k_with_none
  w_top off
  change wpAny _ (PySem.Around.deeper callerA (envX _ (PySem.Scope.mk _ _ _ _ _) _ _ _ _)) (execs (PySem.Stmt.If _ _ _ _ :: _) (envX _ (PySem.Scope.mk _ _ _ _ _) _ _ _ _)) _ _ _
  have hcTn := (hR _ hcT).1
  have hcLn := (hR _ hcL).1
  have hln := (hR _ hl).1
  have g1 := x.gC
  have hx1 : (x.a, instObj 132 x.d) ∈ news := hx _ (by simp [Ln.led])
  have hx2 : (x.d, dictOf x.es x.cnt) ∈ news := hx _ (by simp [Ln.led])
  refine wpAny_execs_cons ?_
  k_steps
  refine ⟨?_⟩
  refine chained_c _ _ _ _ _ _ _ _ _ _ _ _ _ _ _ _ _ _ _ _ tl kt ts (pv0 ts) (nx0 ts) news B F X N T hln hti rfl (fun i t h => by simp [pv0, h]) (fun i h => by simp [nx0, List.getElem?_eq_none (Nat.le_of_eq h.symm)]) (fun i t h => by simp [nx0, h]) hn.out (by decide) (by decide) ?_
  intro h1 tk1 F1 N1
  clear F N
  k_steps
  refine ⟨?_⟩
  have hm2 : Txt.mul (Str.ofString "  ") x.dep = Txt.mul (Str.ofString " ") (2 * dep) := by rw [hxd]; exact mul_two hd0 hd1
  have hK : BK ts x rl kl kr R news := ⟨hx1, hx2, hxl, hrl, hti, fun q hq => (hR q hq).1⟩
  have hne : ∀ q ∈ news, q.2.cls ≠ Value.none ∨ q ∈ R → q.1 ≠ 69 ∧ q.1 ≠ 123 := fun q hq h => h.elim (fun hc => ⟨ne_of_cls N1 (a := q.1) (o := q.2) hq hP1 hc, ne_of_cls N1 (a := q.1) (o := q.2) hq hP2 hc⟩) (fun hr => (hR q hr).2)
  refine ascode_c _ _ _ _ _ _ _ _ _ _ _ _ _ _ _ _ _ _ _ _ kl x ts (pv0 ts) (nx0 ts) news B F1 X N1 T hx hxl hti ps1 hP1 hp1 hn.out hg (by omega) (by omega) (by decide) (by decide) ?_
  intro s2 ps1' tt2 hp1' F2 N2 hg2 hos2
  rw [hm2]
  have hP2' : (123, tabO ps2) ∈ (69, tabO ps1') :: offs news [69] := .tail _ (mem_offs hP2 (by simp))
  have hP1' : (69, tabO ps1') ∈ (69, tabO ps1') :: offs news [69] := .head _
  have hK2 : BK ts x rl kl kr R ((69, tabO ps1') :: offs news [69]) := hK.mono fun q hq h => .tail _ (mem_offs hq (fun e => (hne q hq h).1 (List.mem_singleton.mp e)))
  clear F1 N1 hne hK hP1 hP2 hx1 hx2 hxl hrl hti hx hcTn hcLn hln
  generalize (69, tabO ps1') :: offs news [69] = nx2 at *
  obtain ⟨hx1, hx2, hxl, hrl, hti, hRn⟩ := id hK2
  have hcTn := hRn _ hcT
  have hcLn := hRn _ hcL
  have hln := hRn _ hl
  generalize hcode : Txt.mul (Str.ofString " ") (2 * dep) ++ Txt.join (Str.ofString " ") (ts.map fun t => t.val) = code0 at *
  have hc0 : (code0 != code0) = false := by simp
  k_steps
  refine ⟨?_⟩
  refine semi_c _ _ _ _ _ _ _ _ _ _ _ _ _ _ _ _ _ _ _ kl x ts (pv0 ts) (nx0 ts) nx2 ps2 (by assumption) F2 X N2 T hK2.xs hxl hti hP2' hp2 hn.out hg2 (by dsimp only [PySem.Around.deeper, PySem.Around.in1]; decide) (by dsimp only [PySem.Around.deeper, PySem.Around.in1]; decide) ?_
  intro s3 ps2' hp2' F3 N3 hg3 hos3
  refine handed_on rfl ?_
  have hne : ∀ q ∈ nx2, q.2.cls ≠ Value.none ∨ q ∈ R → q.1 ≠ 69 ∧ q.1 ≠ 123 := fun q hq h => h.elim (fun hc => ⟨ne_of_cls N2 (a := q.1) (o := q.2) hq hP1' hc, ne_of_cls N2 (a := q.1) (o := q.2) hq hP2' hc⟩) (fun hr => (hR q hr).2)
  have hP1'' : (69, tabO ps1') ∈ (123, tabO ps2') :: offs nx2 [123] := .tail _ (mem_offs hP1' (by simp))
  have hP2'' : (123, tabO ps2') ∈ (123, tabO ps2') :: offs nx2 [123] := .head _
  have hK3 : BK ts x rl kl kr R ((123, tabO ps2') :: offs nx2 [123]) := hK2.mono fun q hq h => .tail _ (mem_offs hq (fun e => (hne q hq h).2 (List.mem_singleton.mp e)))
  clear F2 N2 hne hK2 hP1' hP2' hx1 hx2 hxl hrl hti hRn hcTn hcLn hln
  generalize (123, tabO ps2') :: offs nx2 [123] = nx3 at *
  obtain ⟨hx1, hx2, hxl, hrl, hti, hRn⟩ := id hK3
  have hcTn := hRn _ hcT
  have hcLn := hRn _ hcL
  have hln := hRn _ hl
  generalize hb : (ts.any fun t => t.val == Str.ofString ";") = b0
  have hb0 : (b0 != b0) = false := by simp
  k_steps
  refine ⟨?_⟩
  refine in_list_strs (isl_mem N3 hrl) (strs_are ts) ?_
  rw [List.any_map]
  rw [show ts.any ((fun x => x == Str.ofString ";") ∘ fun t => t.val) = b0 from hb]
  k_steps
  refine ⟨?_⟩
  refine parts_c _ _ _ _ _ _ _ _ _ _ _ _ _ _ _ _ _ _ _ _ kr rl ts nx3 B F3 X N3 T hrl hn.out (by decide) (by decide) ?_
  intro pl as nx4 h4 tk4 F4 N4 hK4 hpt
  have hP1a := hK4 _ hP1''
  have hP2a := hK4 _ hP2''
  have hxs := hK3.xs
  replace hxs : ∀ q ∈ x.led, q ∈ nx4 := fun q hq => hK4 q (hxs q hq)
  have hPB : PB ts x kl R pl as nx4 := ⟨hK4 _ hx1, hK4 _ hx2, hK4 _ hxl, fun q hq => hK4 q (hRn q hq), hpt⟩
  have hti4 := hti.mono hK4
  clear F3 N3 hP1'' hP2'' hK3 hx1 hx2 hxl hrl hti hRn hcTn hcLn hln hK4
  have hcLn := hPB.R _ hcL
  have hne : ∀ q ∈ nx4, q.2.cls ≠ Value.none ∨ q ∈ R → q.1 ≠ 123 := fun q hq h => h.elim (fun hc => ne_of_cls N4 (a := q.1) (o := q.2) hq hP2a hc) (fun hr => (hR q hr).2.2)
  have hoD : ∀ q ∈ nx4, q.2.cls ≠ .type "dict" ∨ OffD ts q → OffD ts q := fun q hq h => h.elim (fun hc t ht => by
    obtain ⟨i, hi⟩ := List.mem_iff_getElem?.mp ht
    exact ne_of_cls N4 (a := q.1) (o := q.2) hq (hti4 i t hi (t.d, dictOf (t.es (pv0 ts i) (nx0 ts i)) t.cnt) (by simp [Tk.led])) hc) id
  k_steps
  refine ⟨?_⟩
  refine lsplit_c _ _ _ _ _ _ _ _ _ _ _ _ _ _ _ _ _ _ _ kl x ts nx4 ps2' B (by assumption) X X T (by assumption) T hxs hPB.xl hti4 hP2a hp2' hS hn.out hg3 (by decide) (by decide) ?_ ?_ ?_
  · intro D k' s5 nx5 ps3 hsc hps3 F5 N5 hK5 hP5 hD hg5 hos5
    k_steps
    refine ⟨?_⟩
    exact hret pl as _ _ nx5 ps1' ps3 (.one D k' hsc hD) (hPB.mono hxo hRT fun q hq h1 h2 => hK5 q hq (hne q hq h1)) hg5 (hos5.trans (hos3.trans hos2)) hp1' hps3 (hK5 _ hP1a n69) hP5 (by assumption) (by assumption)
  · intro pl2 ls kk s5 nx5 ps3 hsc hne5 hL5 hpl5 hT5 hK5 hP5 hps3 F5 N5 hg5 hos5
    k_steps
    refine ⟨?_⟩
    exact hret pl as _ _ nx5 ps1' ps3 (.many pl2 ls kk hsc hne5 hL5 hpl5 hT5) (hPB.mono hxo hRT fun q hq h1 h2 => hK5 q hq (hne q hq h1) (hoD q hq h2)) hg5 (hos5.trans (hos3.trans hos2)) hp1' hps3 (hK5 _ hP1a n69 (hoD _ hP1a (.inl (by intro e; cases e)))) hP5 (by assumption) (by assumption)
  · intro s5 nx5 ps3 hsc hex hK5 hP5 hps3 F5 N5 hg5 hos5
    k_steps
    refine ⟨?_⟩
    exact hret pl as _ _ nx5 ps1' ps3 (.none hsc hex) (hPB.mono hxo hRT fun q hq h1 h2 => hK5 q hq (hne q hq h1) (hoD q hq h2)) hg5 (hos5.trans (hos3.trans hos2)) hp1' hps3 (hK5 _ hP1a n69 (hoD _ hP1a (.inl (by intro e; cases e)))) hP5 (by assumption) (by assumption)
end Mine
end
section
open PySem PySem.W PyProof.Rows PySem.Spec PySem.Calls
namespace Mine
local macro_rules | `(tactic| k_room) => `(tactic| (simp only [depth_under_make, depth_under_kw, depth_in1, depth_deeper, depth_caller, ktrTop]; omega))
local macro_rules | `(tactic| k_mem) => `(tactic| first | assumption | (refine List.mem_append_left _ ?_; assumption))
local macro_rules | `(tactic| walk_at "call builtin:len") => `(tactic| (k_here; (with_reducible show wpAny _ _ (call (Value.builtin _) [Value.ref _]) _ _ _); k_dflt (refine' len_mem ?N ?h ?n ?z ?_; (case N => k_asm); (case h => k_mem); (case n => with_reducible assumption); (case z => omega))))
local macro_rules | `(tactic| walk_at "subscriptTail Name Name ref int") => `(tactic| (k_here; (with_reducible show wpAny _ _ (subscriptTail _ _ (Value.ref _) (Value.int _ _)) _ _ _); k_dflt (refine' item_mem ?N ?h ?z ?y ?x ?_ ?s ?g; (case N => k_asm); (case h => k_mem); (case z => omega); (case y => omega); (case x => assumption); (case s => with_unfolding_all rfl); (case g => (intro _; with_unfolding_all rfl)))))
local macro_rules | `(tactic| walk_at "subscriptTail Name BinOp ref int") => `(tactic| (k_here; (with_reducible show wpAny _ _ (subscriptTail _ _ (Value.ref _) (Value.int _ _)) _ _ _); k_dflt (refine' item_mem ?N ?h ?z ?y ?x ?_ ?s ?g; (case N => k_asm); (case h => k_mem); (case z => omega); (case y => omega); (case x => assumption); (case s => with_unfolding_all rfl); (case g => (intro _; with_unfolding_all rfl)))))
local macro_rules | `(tactic| walk_at "truthy ref") => `(tactic| (k_here; k_dflt (refine' truthy_mem ?N ?h ?n ?z ?b ?_; (case N => k_asm); (case h => k_mem); (case n => with_reducible assumption); (case z => omega); (case b => assumption))))
local macro_rules | `(tactic| walk_at "setAttr ref") => `(tactic| (k_here; (with_reducible show wpAny _ _ (setAttr (Value.ref _) (Str.ofString "previous_token") _) _ _ _); k_dflt (refine' set_prev ?F ?X ?N ?m ?U ?_; (case F => k_asm); (case X => k_asm); (case N => k_asm); (case m => k_mem); (case U => k_upd)); intro h' F' N'; (try k_sweep)))
local macro_rules | `(tactic| walk_at "setAttr ref") => `(tactic| (k_here; (with_reducible show wpAny _ _ (setAttr (Value.ref _) (Str.ofString "next_token") _) _ _ _); k_dflt (refine' set_next ?F ?X ?N ?m ?U ?_; (case F => k_asm); (case X => k_asm); (case N => k_asm); (case m => k_mem); (case U => k_upd)); intro h' F' N'; (try k_sweep)))
local macro_rules | `(tactic| walk_at "getAttr ref") => `(tactic| (k_here; k_dflt (refine' get_own ?k1 ?k2 ?k3 ?k4 ?k5 ?k6 ?k7 ?k8 ?k9 ?_; (case k1 => k_asm); (case k2 => k_asm); (case k3 => k_inst); (case k4 => k_is); (case k5 => k_is); (case k6 => k_is); (case k7 => k_is); (case k8 => assumption); (case k9 => k_handed); k_whole)))
local macro_rules | `(tactic| walk_at "call ref") => `(tactic| (k_here; k_dflt (first
  | (refine' call_cls ?k1 ?k2 ?k3 ?k4 ?k5 ?k6 ?_; (case k1 => k_asm); (case k2 => k_asm); (case k3 => k_asm); (case k4 => k_is); (case k5 => k_is); (case k6 => k_is); k_whole; intro x' d' h' F' N' l1 l2; (try k_lt l1); (try k_lt2 l2); (try k_sweep); k_enter)
  | (refine' call_meth ?k1 ?k2 ?_; (case k1 => k_asm); (case k2 => k_mem); k_whole; k_enter)
  | (refine wpAny_call ?_; k_enter))))

local macro_rules | `(tactic| walk_at "call ref") => `(tactic| (k_here; (with_reducible show wpAny _ _ (call (Value.ref 504) _) _ _ _); refine stop_here ?_))
local macro_rules | `(tactic| walk_at "call ref") => `(tactic| (k_here; (with_reducible show wpAny _ _ (call (Value.ref 329) _) _ _ _); refine stop_here ?_))
local macro_rules | `(tactic| walk_at "call ref") => `(tactic| (k_here; (with_reducible show wpAny _ _ (call (Value.ref 486) _) _ _ _); refine stop_here ?_))
local macro_rules | `(tactic| walk_at "call ref") => `(tactic| (k_here; (with_reducible show wpAny _ _ (call (Value.ref 132) _) _ _ _); refine stop_here ?_))
local macro_rules | `(tactic| walk_at "call ref") => `(tactic| (k_here; (with_reducible show wpAny _ _ (call (Value.ref 518) _) _ _ _); refine stop_here ?_))
local macro_rules | `(tactic| walk_at "call ref") => `(tactic| (k_here; (with_reducible show wpAny _ _ (call (Value.ref 74) _) _ _ _); refine stop_here ?_))
local macro_rules | `(tactic| walk_at "call ref") => `(tactic| (k_here; (with_reducible show wpAny _ _ (call (Value.ref 511) _) _ _ _); refine stop_here ?_))
local macro_rules | `(tactic| walk_at "call ref") => `(tactic| (k_here; (with_reducible show wpAny _ _ (call (Value.ref 525) _) _ _ _); refine stop_here ?_))
local macro_rules | `(tactic| walk_at "getAttr ref") => `(tactic| (k_here; (with_reducible show wpAny _ _ (getAttr (Value.ref _) (Str.ofString "has_semicolon") _) _ _ _); k_dflt (refine' get_prop ?k1 ?k2 ?k3 ?k4 ?k5 ?k6 ?k7 ?k8 ?k9 ?_; (case k1 => k_asm); (case k2 => k_asm); (case k3 => k_inst); (case k4 => k_is); (case k5 => k_is); (case k6 => k_is); (case k7 => k_is); (case k8 => k_is); (case k9 => k_is); k_whole; refine stop_here ?_)))
local macro_rules | `(tactic| walk_at "getMethod ref") => `(tactic| (k_here; k_dflt (refine' method_inst ?k1 ?k2 ?k3 ?k4 ?k5 ?k6 ?k7 ?_; (case k1 => k_asm); (case k2 => k_asm); (case k3 => k_inst); (case k4 => k_is); (case k5 => k_is); (case k6 => k_is); (case k7 => assumption); k_whole)))
local macro_rules | `(tactic| walk_at "eval ListComp") => `(tactic| (k_here; k_dflt (refine LCg.ListComp_U (F₀ := by k_asm) (by with_unfolding_all rfl) (by decide) (by rfl) (by decide) (by rfl) ?_)))
local macro_rules | `(tactic| walk_at "exec Assign cons ListComp") => `(tactic| (k_here; k_dflt (refine LCg.Assign_ListComp_U (F₀ := by k_asm) (by rfl) (by with_unfolding_all rfl) (by with_unfolding_all rfl) (by decide) (by rfl) (by decide) (by rfl) (by rfl) (by rfl) ?_)))
local macro_rules | `(tactic| walk_at "CompSrc") => `(tactic| refine stop_here ?_)
local macro_rules | `(tactic| walk_at "FinA") => `(tactic| refine stop_here ?_)
local macro_rules | `(tactic| walk_at "FinE") => `(tactic| refine stop_here ?_)
local macro_rules | `(tactic| walk_at "execs cons") => `(tactic| (k_here; (with_reducible show wpAny _ _ (execs (PySem.Stmt.If _ _ _ _ :: _) _) _ _ _); refine stop_here ?_))
local macro_rules | `(tactic| walk_at "call builtin:all") => `(tactic| refine stop_here ?_)
theorem all_trues (n : Nat) : ((List.range n).map fun _ => true).all id = true := by simp
theorem fillC {w : World} {h₀ : Heap} (X : (hd.heap_39 w.params).In h₀) : (hd.heap_39 w.params).In h₀ ∧ PySem.Challenge.rw_bu5043_01 = PySem.Challenge.rw_bu5043_01 := by
  k_fill
  exact ⟨X, rfl⟩
theorem segC_c {w : World} {p : Program} {loose : List Str} {mean : ExcName → Option Value} {mg mb : Str → Option Value} (base : Heap) (L a : Addr) (ccd : Value) (cT cL cP cM tl : Addr) (oT oL : Obj) (kt kl : Nat) (m : Str → Option Value) (s : Shared) (Q : Flow → Shared → Prop) (E : Value → Shared → Prop)
    (ts : List (Tk w.params)) (x : Ln w.params) (news : Led)
    (B : Below callerA base [] base) (X : (hd.heap_39 w.params).In base) (T : Top p loose mean mg mb base)
    (F : Fr base L s.heap m) (N : News base L s.heap news) (dL : oL.data = .cell (some (.ref x.a))) (dT : oT.data = .cell (some (.ref tl))) (hn : Stop (ts.length ≤ 8))
    (hx1 : (x.a, instObj 132 x.d) ∈ news) (hx2 : (x.d, dictOf x.es x.cnt) ∈ news) (hxl : (x.l, W.listOf (ts.map fun t => Value.ref t.a).toArray kl) ∈ news)
    (hcT : (cT, oT) ∈ news) (hcL : (cL, oL) ∈ news) (hl : (tl, W.listOf (ts.map fun t => Value.ref t.a).toArray kt) ∈ news)
    (hret : ∀ h' tk', Fr base L h' m → News base L h' news →
      wpAny (model pr w) (callerA.deeper (lawEnv L a ccd (lawCells cT cL cP cM))) (execs (lawFrom 11) (lawEnv L a ccd (lawCells cT cL cP cM))) Q E { s with heap := h', toks := tk' }) :
    wpAny (model pr w) (callerA.deeper (lawEnv L a ccd (lawCells cT cL cP cM))) (execs (lawFrom 10) (lawEnv L a ccd (lawCells cT cL cP cM))) Q E s := by
  k_with_none
  w_top off
  change wpAny _ (PySem.Around.deeper callerA (envX _ (PySem.Scope.mk _ _ _ _ _) _ _ _ _)) (execs (PySem.Stmt.If _ _ _ _ :: _) (envX _ (PySem.Scope.mk _ _ _ _ _) _ _ _ _)) _ _ _
  have g1 := x.gtok
  have hvl : (ts.map fun t => Value.ref t.a).length = ts.length := List.length_map _
  have hn2 : ts.length ≤ 1000 := by have := hn.out; omega
  have hnn : ((ts.length : Int) != (ts.length : Int)) = false := by simp
  refine wpAny_execs_cons ?_
  k_steps
  refine ⟨?_⟩
  with_reducible rename IsRange _ _ _ _ _ _ _ _ => hRg
  with_reducible rename Fr base L _ m => hF
  with_reducible rename News base L _ news => hN
  refine src_range (fun i y => y = .bool true) rfl hF hN hRg hn2 ?_ ?_
  rotate_left
  · intro i ti I oI C oC D ys m₂ h tk E' Q' hi hC hx F' N' hq
    have hx0 : (ts.map fun t => Value.ref t.a)[((i : Int)).toNat]? = some (.ref ts[i].a) := by simp [hi]
    have hi0 : 0 ≤ (i : Int) := by omega
    have hi1 : (i : Int) < 1000 := by omega
    clear hF hN hRg
    k_steps
    exact hq _ _ _ rfl (by assumption) (by assumption)
  intro g ys hy1 hy2 D h1 tk1 F1 N1 o1
  obtain rfl := bools_told (b := fun _ => true) hy1 hy2
  clear hF hN hRg hy1 hy2 o1
  k_steps
  refine ⟨?_⟩
  refine LSm.all_bools F1 N1 rfl (isl_mem (k := ((List.map Value.bool ((List.range ts.length).map fun _ => true))).length) N1 (.head _)) (bools_map _) ?_
  rw [all_trues]
  intro h2 tk2 F2 N2
  replace N2 : News base L h2 news := fun q hq => N2 q (.tail _ hq)
  clear F1 N1
  k_steps
  refine ⟨?_⟩
  exact hret _ _ (by assumption) (by assumption)
end Mine
end
section
open PySem PySem.W PyProof.Rows PySem.Spec PySem.Calls
namespace Mine
local macro_rules | `(tactic| k_room) => `(tactic| (simp only [depth_under_make, depth_under_kw, depth_in1, depth_deeper, depth_caller, ktrTop]; omega))
local macro_rules | `(tactic| k_mem) => `(tactic| first | assumption | (refine List.mem_append_left _ ?_; assumption))
local macro_rules | `(tactic| walk_at "call builtin:len") => `(tactic| (k_here; (with_reducible show wpAny _ _ (call (Value.builtin _) [Value.ref _]) _ _ _); k_dflt (refine' len_mem ?N ?h ?n ?z ?_; (case N => k_asm); (case h => k_mem); (case n => with_reducible assumption); (case z => omega))))
local macro_rules | `(tactic| walk_at "subscriptTail Name Name ref int") => `(tactic| (k_here; (with_reducible show wpAny _ _ (subscriptTail _ _ (Value.ref _) (Value.int _ _)) _ _ _); k_dflt (refine' item_mem ?N ?h ?z ?y ?x ?_ ?s ?g; (case N => k_asm); (case h => k_mem); (case z => omega); (case y => omega); (case x => assumption); (case s => with_unfolding_all rfl); (case g => (intro _; with_unfolding_all rfl)))))
local macro_rules | `(tactic| walk_at "subscriptTail Name BinOp ref int") => `(tactic| (k_here; (with_reducible show wpAny _ _ (subscriptTail _ _ (Value.ref _) (Value.int _ _)) _ _ _); k_dflt (refine' item_mem ?N ?h ?z ?y ?x ?_ ?s ?g; (case N => k_asm); (case h => k_mem); (case z => omega); (case y => omega); (case x => assumption); (case s => with_unfolding_all rfl); (case g => (intro _; with_unfolding_all rfl)))))
local macro_rules | `(tactic| walk_at "truthy ref") => `(tactic| (k_here; k_dflt (refine' truthy_mem ?N ?h ?n ?z ?b ?_; (case N => k_asm); (case h => k_mem); (case n => with_reducible assumption); (case z => omega); (case b => assumption))))
local macro_rules | `(tactic| walk_at "setAttr ref") => `(tactic| (k_here; (with_reducible show wpAny _ _ (setAttr (Value.ref _) (Str.ofString "previous_token") _) _ _ _); k_dflt (refine' set_prev ?F ?X ?N ?m ?U ?_; (case F => k_asm); (case X => k_asm); (case N => k_asm); (case m => k_mem); (case U => k_upd)); intro h' F' N'; (try k_sweep)))
local macro_rules | `(tactic| walk_at "setAttr ref") => `(tactic| (k_here; (with_reducible show wpAny _ _ (setAttr (Value.ref _) (Str.ofString "next_token") _) _ _ _); k_dflt (refine' set_next ?F ?X ?N ?m ?U ?_; (case F => k_asm); (case X => k_asm); (case N => k_asm); (case m => k_mem); (case U => k_upd)); intro h' F' N'; (try k_sweep)))
local macro_rules | `(tactic| walk_at "getAttr ref") => `(tactic| (k_here; k_dflt (refine' get_own ?k1 ?k2 ?k3 ?k4 ?k5 ?k6 ?k7 ?k8 ?k9 ?_; (case k1 => k_asm); (case k2 => k_asm); (case k3 => k_inst); (case k4 => k_is); (case k5 => k_is); (case k6 => k_is); (case k7 => k_is); (case k8 => assumption); (case k9 => k_handed); k_whole)))
local macro_rules | `(tactic| walk_at "call ref") => `(tactic| (k_here; k_dflt (first
  | (refine' call_cls ?k1 ?k2 ?k3 ?k4 ?k5 ?k6 ?_; (case k1 => k_asm); (case k2 => k_asm); (case k3 => k_asm); (case k4 => k_is); (case k5 => k_is); (case k6 => k_is); k_whole; intro x' d' h' F' N' l1 l2; (try k_lt l1); (try k_lt2 l2); (try k_sweep); k_enter)
  | (refine' call_meth ?k1 ?k2 ?_; (case k1 => k_asm); (case k2 => k_mem); k_whole; k_enter)
  | (refine wpAny_call ?_; k_enter))))

local macro_rules | `(tactic| walk_at "call ref") => `(tactic| (k_here; (with_reducible show wpAny _ _ (call (Value.ref 504) _) _ _ _); refine stop_here ?_))
local macro_rules | `(tactic| walk_at "call ref") => `(tactic| (k_here; (with_reducible show wpAny _ _ (call (Value.ref 329) _) _ _ _); refine stop_here ?_))
local macro_rules | `(tactic| walk_at "call ref") => `(tactic| (k_here; (with_reducible show wpAny _ _ (call (Value.ref 486) _) _ _ _); refine stop_here ?_))
local macro_rules | `(tactic| walk_at "call ref") => `(tactic| (k_here; (with_reducible show wpAny _ _ (call (Value.ref 132) _) _ _ _); refine stop_here ?_))
local macro_rules | `(tactic| walk_at "call ref") => `(tactic| (k_here; (with_reducible show wpAny _ _ (call (Value.ref 518) _) _ _ _); refine stop_here ?_))
local macro_rules | `(tactic| walk_at "call ref") => `(tactic| (k_here; (with_reducible show wpAny _ _ (call (Value.ref 74) _) _ _ _); refine stop_here ?_))
local macro_rules | `(tactic| walk_at "call ref") => `(tactic| (k_here; (with_reducible show wpAny _ _ (call (Value.ref 511) _) _ _ _); refine stop_here ?_))
local macro_rules | `(tactic| walk_at "call ref") => `(tactic| (k_here; (with_reducible show wpAny _ _ (call (Value.ref 525) _) _ _ _); refine stop_here ?_))
local macro_rules | `(tactic| walk_at "getAttr ref") => `(tactic| (k_here; (with_reducible show wpAny _ _ (getAttr (Value.ref _) (Str.ofString "has_semicolon") _) _ _ _); k_dflt (refine' get_prop ?k1 ?k2 ?k3 ?k4 ?k5 ?k6 ?k7 ?k8 ?k9 ?_; (case k1 => k_asm); (case k2 => k_asm); (case k3 => k_inst); (case k4 => k_is); (case k5 => k_is); (case k6 => k_is); (case k7 => k_is); (case k8 => k_is); (case k9 => k_is); k_whole; refine stop_here ?_)))
local macro_rules | `(tactic| walk_at "getMethod ref") => `(tactic| (k_here; k_dflt (refine' method_inst ?k1 ?k2 ?k3 ?k4 ?k5 ?k6 ?k7 ?_; (case k1 => k_asm); (case k2 => k_asm); (case k3 => k_inst); (case k4 => k_is); (case k5 => k_is); (case k6 => k_is); (case k7 => assumption); k_whole)))
local macro_rules | `(tactic| walk_at "eval ListComp") => `(tactic| (k_here; k_dflt (refine LCg.ListComp_U (F₀ := by k_asm) (by with_unfolding_all rfl) (by decide) (by rfl) (by decide) (by rfl) ?_)))
local macro_rules | `(tactic| walk_at "exec Assign cons ListComp") => `(tactic| (k_here; k_dflt (refine LCg.Assign_ListComp_U (F₀ := by k_asm) (by rfl) (by with_unfolding_all rfl) (by with_unfolding_all rfl) (by decide) (by rfl) (by decide) (by rfl) (by rfl) (by rfl) ?_)))
local macro_rules | `(tactic| walk_at "CompSrc") => `(tactic| refine stop_here ?_)
local macro_rules | `(tactic| walk_at "FinA") => `(tactic| refine stop_here ?_)
local macro_rules | `(tactic| walk_at "FinE") => `(tactic| refine stop_here ?_)
local macro_rules | `(tactic| walk_at "execs cons") => `(tactic| (k_here; (with_reducible show wpAny _ _ (execs (PySem.Stmt.If _ _ _ _ :: _) _) _ _ _); refine stop_here ?_))
local macro_rules | `(tactic| walk_at "exec Assign cons ListComp") => `(tactic| (k_here; k_dflt (refine LCt.Assign_ListComp_T (F₀ := by k_asm) (by rfl) (by with_unfolding_all rfl) (by with_unfolding_all rfl) (by decide) (by rfl) (by decide) (by rfl) (by rfl) (by rfl) ?_)))
local macro_rules | `(tactic| walk_at "CompSrcT") => `(tactic| refine stop_here ?_)
local macro_rules | `(tactic| walk_at "call builtin:all") => `(tactic| refine stop_here ?_)
local macro_rules | `(tactic| walk_at "call builtin:any") => `(tactic| refine stop_here ?_)
local macro_rules | `(tactic| walk_at "subscriptTail Name Constant ref int") => `(tactic| (k_here; (with_reducible show wpAny _ _ (subscriptTail _ _ (Value.ref _) (Value.int _ _)) _ _ _); k_dflt (with_unfolding_all refine' item0_mem ?N ?h ?x ?_ ?s ?g; (case N => k_asm); (case h => k_mem); (case x => assumption); (case s => with_unfolding_all rfl); (case g => (intro _; with_unfolding_all rfl)))))
local macro_rules | `(tactic| walk_at "subscriptTail Name Slice ref ref") => `(tactic| (k_here; (with_reducible show wpAny _ _ (subscriptTail _ (PySem.Expr.Slice none _ none _) (Value.ref _) (Value.ref _)) _ _ _); k_dflt (refine' sliceL_mem ?F ?N ?l ?n ?z ?_ ?s ?t; (case F => k_asm); (case N => k_asm); (case l => k_mem); (case n => with_reducible assumption); (case z => omega); (case s => with_unfolding_all rfl); (case t => kmk_pure)); intro D' h' F' N' l1; (try k_lt l1); (try k_sweep)))
local macro_rules | `(tactic| walk_at "execs cons") => `(tactic| (k_here; (with_reducible show wpAny _ _ (execs (PySem.Stmt.For _ _ _ _ _ :: _) _) _ _ _); refine stop_here ?_))
theorem fillD {w : World} {h₀ : Heap} (X : (hd.heap_39 w.params).In h₀) : (hd.heap_39 w.params).In h₀ ∧ PySem.Challenge.rw_bu5043_01 = PySem.Challenge.rw_bu5043_01 := by
  k_fill
  exact ⟨X, rfl⟩
theorem segD_c {w : World} {p : Program} {loose : List Str} {mean : ExcName → Option Value} {mg mb : Str → Option Value} (base : Heap) (L a : Addr) (ccd : Value) (cT cL cP cM pl : Addr) (oL : Obj) (as : List Addr) (v : Value) (m : Str → Option Value) (s : Shared) (Q : Flow → Shared → Prop) (E : Value → Shared → Prop)
    (ts : List (Tk w.params)) (x : Ln w.params) (news : Led)
    (B : Below callerA base [] base) (X : (hd.heap_39 w.params).In base) (T : Top p loose mean mg mb base)
    (F : Fr base L s.heap (fun y => if y = Str.ofString "told" then some v else if y = Str.ofString "parts" then some (.ref pl) else m y)) (N : News base L s.heap news) (dL : oL.data = .cell (some (.ref x.a))) (hn : Stop (ts.length ≤ 8))
    (hcL : (cL, oL) ∈ news) (hP : PartsIn news pl as (partsU (semiAt ts) ts.length)) (hT : Told ts x news v)
    (hend : ∀ h' tk' m', Fr base L h' m' → News base L h' news → Q (.ret (.bool true)) { s with heap := h', toks := tk' })
    (hret : ∀ pl2 (ls : List (Ln w.params)) k dl kd h' tk', (ts.any fun t => t.val == Str.ofString ";") = true → (∀ ns ∈ dueU (semiAt ts) ts.length, ns ≠ []) → LinesIn news ts x.dep pl2 ls (dueU (semiAt ts) ts.length) →
      (pl2, W.listOf (ls.map fun z => Value.ref z.a).toArray k) ∈ news → TIn ts (pvK ts (dueU (semiAt ts) ts.length)) (nxK ts (dueU (semiAt ts) ts.length)) news →
      Fr base L h' (fun y => if y = Str.ofString "due" then some (.ref dl) else if y = Str.ofString "told" then some (.ref pl2) else if y = Str.ofString "parts" then some (.ref pl) else m y) → News base L h' ((dl, W.listOf ((as.take (dueU (semiAt ts) ts.length).length).map Value.ref).toArray kd) :: news) →
      wpAny (model pr w) (callerA.deeper (lawEnv L a ccd (lawCells cT cL cP cM))) (execs (lawFrom 15) (lawEnv L a ccd (lawCells cT cL cP cM))) Q E { s with heap := h', toks := tk' }) :
    wpAny (model pr w) (callerA.deeper (lawEnv L a ccd (lawCells cT cL cP cM))) (execs (lawFrom 11) (lawEnv L a ccd (lawCells cT cL cP cM))) Q E s := by
  k_with_none
  w_top off
  change wpAny _ (PySem.Around.deeper callerA (envX _ (PySem.Scope.mk _ _ _ _ _) _ _ _ _)) (execs (PySem.Stmt.If _ _ _ _ :: _) (envX _ (PySem.Scope.mk _ _ _ _ _) _ _ _ _)) _ _ _
  obtain ⟨kp, hpm⟩ := hP.mem
  have hal := hP.len
  have hln := partsU_len (semiAt ts) ts.length
  have hn2 := hn.out
  have has : as.length ≤ 1000 := by omega
  clear hln hn2
  cases hT with
  | one D k h hm =>
    have h1 : (as.map Value.ref).length = 1 := by rw [List.length_map, hal, parts_one h]
    have h2 : [Value.ref x.a].length = 1 := rfl
    have h3 : [Value.ref x.a][0]? = some (.ref x.a) := rfl
    refine wpAny_execs_cons ?_
    k_steps
    exact hend _ _ _ (by assumption) (by assumption)
  | none h hex =>
    have h1 : (as.map Value.ref).length = as.length := List.length_map _
    have h2 : ((as.length : Int) == 1) = false := by have := parts_more h; rw [beq_eq_false_iff_ne]; omega
    refine wpAny_execs_cons ?_
    k_steps
    refine ⟨?_⟩
    refine wpAny_execs_cons ?_
    k_steps
    refine ⟨?_⟩
    with_reducible rename Fr base L _ _ => hF
    with_reducible rename News base L _ _ => hN
    refine src_list (fun i y => y = .bool ((((partsU (semiAt ts) ts.length)[i]?.getD []).length : Int) == 0)) rfl hF hN (.head _) (by rw [List.length_dropLast, h1]; omega) ?_ ?_
    rotate_left
    · intro i v I oI C oC D ys m₂ h tk E' Q' hv hC hx F' N' hq
      rw [List.getElem?_dropLast] at hv
      have hi : i < as.length - 1 := by
        rw [h1] at hv
        by_cases hi : i < as.length - 1
        · exact hi
        · rw [if_neg hi] at hv; cases hv
      rw [h1, if_pos hi, List.getElem?_map, List.getElem?_eq_getElem (by omega)] at hv
      cases hv
      have hpi : (partsU (semiAt ts) ts.length)[i]? = some (partsU (semiAt ts) ts.length)[i] := List.getElem?_eq_getElem (by omega)
      obtain ⟨us, ku, hum, hui⟩ := hP.each i as[i] _ (List.getElem?_eq_getElem (by omega)) hpi
      have hul := hui.1
      have hus : (partsU (semiAt ts) ts.length)[i].length ≤ 1000 := by have := partsU_each (semiAt ts) ts.length _ (List.getElem_mem (show i < (partsU (semiAt ts) ts.length).length by omega)); have := hn.out; omega
      rw [hpi] at hq
      clear hF hN
      k_steps
      exact hq _ _ _ rfl (by assumption) (by assumption)
    intro g ys hy1 hy2 D hp1 tk1 F1 N1 o1
    obtain rfl := bools_told (b := fun i => ((((partsU (semiAt ts) ts.length)[i]?.getD []).length : Int) == 0)) hy1 hy2
    clear hF hN hy1 hy2 o1
    k_steps
    refine ⟨?_⟩
    refine LSm.any_bools F1 N1 rfl (isl_mem (k := _) N1 (.head _)) (bools_map _) ?_
    rw [any_parts (by rw [List.length_dropLast, List.length_map, hal]), due_empty hex]
    intro hp2 tk2 F2 N2
    replace N2 : News base L hp2 news := fun q hq => N2 q (.tail _ (.tail _ hq))
    clear F1 N1
    k_steps
    exact hend _ _ _ (by assumption) (by assumption)
  | many pl2 ls k h hne hL hm hT =>
    have h1 : (as.map Value.ref).length = as.length := List.length_map _
    have h2 : ((as.length : Int) == 1) = false := by have := parts_more h; rw [beq_eq_false_iff_ne]; omega
    refine wpAny_execs_cons ?_
    k_steps
    refine ⟨?_⟩
    refine wpAny_execs_cons ?_
    k_steps
    refine ⟨?_⟩
    with_reducible rename Fr base L _ _ => hF
    with_reducible rename News base L _ _ => hN
    refine src_list (fun i y => y = .bool ((((partsU (semiAt ts) ts.length)[i]?.getD []).length : Int) == 0)) rfl hF hN (.head _) (by rw [List.length_dropLast, h1]; omega) ?_ ?_
    rotate_left
    · intro i v I oI C oC D ys m₂ h tk E' Q' hv hC hx F' N' hq
      rw [List.getElem?_dropLast] at hv
      have hi : i < as.length - 1 := by
        rw [h1] at hv
        by_cases hi : i < as.length - 1
        · exact hi
        · rw [if_neg hi] at hv; cases hv
      rw [h1, if_pos hi, List.getElem?_map, List.getElem?_eq_getElem (by omega)] at hv
      cases hv
      have hpi : (partsU (semiAt ts) ts.length)[i]? = some (partsU (semiAt ts) ts.length)[i] := List.getElem?_eq_getElem (by omega)
      obtain ⟨us, ku, hum, hui⟩ := hP.each i as[i] _ (List.getElem?_eq_getElem (by omega)) hpi
      have hul := hui.1
      have hus : (partsU (semiAt ts) ts.length)[i].length ≤ 1000 := by have := partsU_each (semiAt ts) ts.length _ (List.getElem_mem (show i < (partsU (semiAt ts) ts.length).length by omega)); have := hn.out; omega
      rw [hpi] at hq
      clear hF hN
      k_steps
      exact hq _ _ _ rfl (by assumption) (by assumption)
    intro g ys hy1 hy2 D hp1 tk1 F1 N1 o1
    obtain rfl := bools_told (b := fun i => ((((partsU (semiAt ts) ts.length)[i]?.getD []).length : Int) == 0)) hy1 hy2
    clear hF hN hy1 hy2 o1
    k_steps
    refine ⟨?_⟩
    refine LSm.any_bools F1 N1 rfl (isl_mem (k := _) N1 (.head _)) (bools_map _) ?_
    rw [any_parts (by rw [List.length_dropLast, List.length_map, hal]), due_full hne]
    intro hp2 tk2 F2 N2
    replace N2 : News base L hp2 news := fun q hq => N2 q (.tail _ (.tail _ hq))
    clear F1 N1
    k_steps
    refine ⟨?_⟩
    refine src_test (fun i => decide (0 < (((partsU (semiAt ts) ts.length)[i]?.getD []).length : Int))) (fun i => Value.ref (as[i]?.getD 0)) rfl F2 N2 hpm (by rw [h1]; exact has) ?_ ?_ ?_
    rotate_left
    · intro i v I oI C oC D ys m₂ h tk E' Q' hv hC hx F' N' hq
      rw [List.getElem?_map] at hv
      have hi : i < as.length := by
        by_cases hi : i < as.length
        · exact hi
        · rw [List.getElem?_eq_none (by omega)] at hv; cases hv
      rw [List.getElem?_eq_getElem hi] at hv
      cases hv
      have hpi : (partsU (semiAt ts) ts.length)[i]? = some (partsU (semiAt ts) ts.length)[i] := List.getElem?_eq_getElem (by omega)
      obtain ⟨us, ku, hum, hui⟩ := hP.each i as[i] _ (List.getElem?_eq_getElem (by omega)) hpi
      have hul := hui.1
      have hus : (partsU (semiAt ts) ts.length)[i].length ≤ 1000 := by have := partsU_each (semiAt ts) ts.length _ (List.getElem_mem (show i < (partsU (semiAt ts) ts.length).length by omega)); have := hn.out; omega
      rw [hpi] at hq
      clear F2 N2
      k_steps
      exact hq _ _ (by assumption) (by assumption)
    · intro i v I oI C oC D ys m₂ h tk E' Q' hv hqi hC hx F' N' hq
      rw [List.getElem?_map] at hv
      have hi : i < as.length := by
        by_cases hi : i < as.length
        · exact hi
        · rw [List.getElem?_eq_none (by omega)] at hv; cases hv
      rw [List.getElem?_eq_getElem hi] at hv
      cases hv
      rw [List.getElem?_eq_getElem hi] at hq
      clear F2 N2
      k_steps
      exact hq _ _ (by assumption) (by assumption)
    · intro g dl h3 tk3 F3 N3 o3
      rw [h1, due_filter hne hal] at N3
      have hll := hL.len
      have e1 : (ls.map fun z => Value.ref z.a).length = (dueU (semiAt ts) ts.length).length := by rw [List.length_map, hll]
      have e2 : ((as.take (dueU (semiAt ts) ts.length).length).map Value.ref).length = (dueU (semiAt ts) ts.length).length := by
        rw [List.length_map, List.length_take, hal, Nat.min_eq_left]
        rw [due_take, List.length_take]; omega
      have e3 : (((dueU (semiAt ts) ts.length).length : Int) != ((dueU (semiAt ts) ts.length).length : Int)) = false := by simp
      have e4 : (dueU (semiAt ts) ts.length).length ≤ 1000 := by rw [due_take, List.length_take]; omega
      rw [lst_eq e2] at N3
      clear F2 N2
      k_steps
      refine ⟨?_⟩
      refine wpAny_execs_cons ?_
      k_steps
      refine ⟨?_⟩
      exact hret pl2 ls k dl _ _ _ h hne hL hm hT (by assumption) (by assumption)
end Mine
end
section
open PySem PySem.W PyProof.Rows PySem.Spec PySem.Calls
namespace Mine
local macro_rules | `(tactic| k_room) => `(tactic| (simp only [depth_under_make, depth_under_kw, depth_in1, depth_deeper, depth_caller, ktrTop]; omega))
local macro_rules | `(tactic| k_mem) => `(tactic| first | assumption | (refine List.mem_append_left _ ?_; assumption))
local macro_rules | `(tactic| walk_at "call builtin:len") => `(tactic| (k_here; (with_reducible show wpAny _ _ (call (Value.builtin _) [Value.ref _]) _ _ _); k_dflt (refine' len_mem ?N ?h ?n ?z ?_; (case N => k_asm); (case h => k_mem); (case n => with_reducible assumption); (case z => omega))))
local macro_rules | `(tactic| walk_at "subscriptTail Name Name ref int") => `(tactic| (k_here; (with_reducible show wpAny _ _ (subscriptTail _ _ (Value.ref _) (Value.int _ _)) _ _ _); k_dflt (refine' item_mem ?N ?h ?z ?y ?x ?_ ?s ?g; (case N => k_asm); (case h => k_mem); (case z => omega); (case y => omega); (case x => assumption); (case s => with_unfolding_all rfl); (case g => (intro _; with_unfolding_all rfl)))))
local macro_rules | `(tactic| walk_at "subscriptTail Name BinOp ref int") => `(tactic| (k_here; (with_reducible show wpAny _ _ (subscriptTail _ _ (Value.ref _) (Value.int _ _)) _ _ _); k_dflt (refine' item_mem ?N ?h ?z ?y ?x ?_ ?s ?g; (case N => k_asm); (case h => k_mem); (case z => omega); (case y => omega); (case x => assumption); (case s => with_unfolding_all rfl); (case g => (intro _; with_unfolding_all rfl)))))
local macro_rules | `(tactic| walk_at "truthy ref") => `(tactic| (k_here; k_dflt (refine' truthy_mem ?N ?h ?n ?z ?b ?_; (case N => k_asm); (case h => k_mem); (case n => with_reducible assumption); (case z => omega); (case b => assumption))))
local macro_rules | `(tactic| walk_at "setAttr ref") => `(tactic| (k_here; (with_reducible show wpAny _ _ (setAttr (Value.ref _) (Str.ofString "previous_token") _) _ _ _); k_dflt (refine' set_prev ?F ?X ?N ?m ?U ?_; (case F => k_asm); (case X => k_asm); (case N => k_asm); (case m => k_mem); (case U => k_upd)); intro h' F' N'; (try k_sweep)))
local macro_rules | `(tactic| walk_at "setAttr ref") => `(tactic| (k_here; (with_reducible show wpAny _ _ (setAttr (Value.ref _) (Str.ofString "next_token") _) _ _ _); k_dflt (refine' set_next ?F ?X ?N ?m ?U ?_; (case F => k_asm); (case X => k_asm); (case N => k_asm); (case m => k_mem); (case U => k_upd)); intro h' F' N'; (try k_sweep)))
local macro_rules | `(tactic| walk_at "getAttr ref") => `(tactic| (k_here; k_dflt (refine' get_own ?k1 ?k2 ?k3 ?k4 ?k5 ?k6 ?k7 ?k8 ?k9 ?_; (case k1 => k_asm); (case k2 => k_asm); (case k3 => k_inst); (case k4 => k_is); (case k5 => k_is); (case k6 => k_is); (case k7 => k_is); (case k8 => assumption); (case k9 => k_handed); k_whole)))
local macro_rules | `(tactic| walk_at "call ref") => `(tactic| (k_here; k_dflt (first
  | (refine' call_cls ?k1 ?k2 ?k3 ?k4 ?k5 ?k6 ?_; (case k1 => k_asm); (case k2 => k_asm); (case k3 => k_asm); (case k4 => k_is); (case k5 => k_is); (case k6 => k_is); k_whole; intro x' d' h' F' N' l1 l2; (try k_lt l1); (try k_lt2 l2); (try k_sweep); k_enter)
  | (refine' call_meth ?k1 ?k2 ?_; (case k1 => k_asm); (case k2 => k_mem); k_whole; k_enter)
  | (refine wpAny_call ?_; k_enter))))

local macro_rules | `(tactic| walk_at "call ref") => `(tactic| (k_here; (with_reducible show wpAny _ _ (call (Value.ref 504) _) _ _ _); refine stop_here ?_))
local macro_rules | `(tactic| walk_at "call ref") => `(tactic| (k_here; (with_reducible show wpAny _ _ (call (Value.ref 329) _) _ _ _); refine stop_here ?_))
local macro_rules | `(tactic| walk_at "call ref") => `(tactic| (k_here; (with_reducible show wpAny _ _ (call (Value.ref 486) _) _ _ _); refine stop_here ?_))
local macro_rules | `(tactic| walk_at "call ref") => `(tactic| (k_here; (with_reducible show wpAny _ _ (call (Value.ref 132) _) _ _ _); refine stop_here ?_))
local macro_rules | `(tactic| walk_at "call ref") => `(tactic| (k_here; (with_reducible show wpAny _ _ (call (Value.ref 518) _) _ _ _); refine stop_here ?_))
local macro_rules | `(tactic| walk_at "call ref") => `(tactic| (k_here; (with_reducible show wpAny _ _ (call (Value.ref 74) _) _ _ _); refine stop_here ?_))
local macro_rules | `(tactic| walk_at "call ref") => `(tactic| (k_here; (with_reducible show wpAny _ _ (call (Value.ref 511) _) _ _ _); refine stop_here ?_))
local macro_rules | `(tactic| walk_at "call ref") => `(tactic| (k_here; (with_reducible show wpAny _ _ (call (Value.ref 525) _) _ _ _); refine stop_here ?_))
local macro_rules | `(tactic| walk_at "getAttr ref") => `(tactic| (k_here; (with_reducible show wpAny _ _ (getAttr (Value.ref _) (Str.ofString "has_semicolon") _) _ _ _); k_dflt (refine' get_prop ?k1 ?k2 ?k3 ?k4 ?k5 ?k6 ?k7 ?k8 ?k9 ?_; (case k1 => k_asm); (case k2 => k_asm); (case k3 => k_inst); (case k4 => k_is); (case k5 => k_is); (case k6 => k_is); (case k7 => k_is); (case k8 => k_is); (case k9 => k_is); k_whole; refine stop_here ?_)))
local macro_rules | `(tactic| walk_at "getMethod ref") => `(tactic| (k_here; k_dflt (refine' method_inst ?k1 ?k2 ?k3 ?k4 ?k5 ?k6 ?k7 ?_; (case k1 => k_asm); (case k2 => k_asm); (case k3 => k_inst); (case k4 => k_is); (case k5 => k_is); (case k6 => k_is); (case k7 => assumption); k_whole)))
local macro_rules | `(tactic| walk_at "eval ListComp") => `(tactic| (k_here; k_dflt (refine LCg.ListComp_U (F₀ := by k_asm) (by with_unfolding_all rfl) (by decide) (by rfl) (by decide) (by rfl) ?_)))
local macro_rules | `(tactic| walk_at "exec Assign cons ListComp") => `(tactic| (k_here; k_dflt (refine LCg.Assign_ListComp_U (F₀ := by k_asm) (by rfl) (by with_unfolding_all rfl) (by with_unfolding_all rfl) (by decide) (by rfl) (by decide) (by rfl) (by rfl) (by rfl) ?_)))
local macro_rules | `(tactic| walk_at "CompSrc") => `(tactic| refine stop_here ?_)
local macro_rules | `(tactic| walk_at "FinA") => `(tactic| refine stop_here ?_)
local macro_rules | `(tactic| walk_at "FinE") => `(tactic| refine stop_here ?_)
local macro_rules | `(tactic| walk_at "execs cons") => `(tactic| (k_here; (with_reducible show wpAny _ _ (execs (PySem.Stmt.If _ _ _ _ :: _) _) _ _ _); refine stop_here ?_))
local macro_rules | `(tactic| walk_at "call builtin:all") => `(tactic| refine stop_here ?_)
local macro_rules | `(tactic| walk_at "subscriptTail Name Constant ref int") => `(tactic| (k_here; (with_reducible show wpAny _ _ (subscriptTail _ _ (Value.ref _) (Value.int _ _)) _ _ _); k_dflt (with_unfolding_all refine' item0_mem ?N ?h ?x ?_ ?s ?g; (case N => k_asm); (case h => k_mem); (case x => assumption); (case s => with_unfolding_all rfl); (case g => (intro _; with_unfolding_all rfl)))))
local macro_rules | `(tactic| walk_at "subscriptTail Name UnaryOp ref int") => `(tactic| (k_here; (with_reducible show wpAny _ _ (subscriptTail _ _ (Value.ref _) (Value.int _ _)) _ _ _); k_dflt (with_unfolding_all refine' last_mem ?N ?h ?x ?_ ?s ?g; (case N => k_asm); (case h => k_mem); (case x => assumption); (case s => with_unfolding_all rfl); (case g => (intro _; with_unfolding_all rfl)))))
theorem all_trues' (n : Nat) : ((List.range n).map fun _ => true).all id = true := by simp
theorem fillE {w : World} {h₀ : Heap} (X : (hd.heap_39 w.params).In h₀) : (hd.heap_39 w.params).In h₀ ∧ PySem.Challenge.rw_bu5043_01 = PySem.Challenge.rw_bu5043_01 := by
  k_fill
  exact ⟨X, rfl⟩
def lawLoopFrom (k j : Nat) : List Stmt := (lawLoop k).drop j
theorem turnE3_c {w : World} {p : Program} {loose : List Str} {mean : ExcName → Option Value} {mg mb : Str → Option Value} (base : Heap) (L a : Addr) (ccd : Value) (cT cL cP cM : Addr) (oM oP : Obj) (m : Str → Option Value) (s : Shared) (Q : Flow → Shared → Prop) (E : Value → Shared → Prop)
    (mts : List (Tk w.params)) (y : Ln w.params) (t0 t1 : Tk w.params) (ky : Nat) (p0 n0 p1 n1 : Value) (news : Led)
    (B : Below callerA base [] base) (X : (hd.heap_39 w.params).In base) (T : Top p loose mean mg mb base)
    (F : Fr base L s.heap (fun z => if z = Str.ofString "start" then some (.ref t0.lf) else if z = Str.ofString "end" then some (.ref t1.lf) else m z))
    (N : News base L s.heap ((cM, oM) :: (cP, oP) :: news)) (dP : oP.data = .cell (some (.ref y.a)))
    (hy1 : (y.a, instObj 132 y.d) ∈ news) (hy2 : (y.d, dictOf y.es y.cnt) ∈ news) (hyl : (y.l, W.listOf (mts.map fun t => Value.ref t.a).toArray ky) ∈ news)
    (hx0 : (mts.map fun t => Value.ref t.a)[0]? = some (.ref t0.a)) (hxl : (mts.map fun t => Value.ref t.a).getLast? = some (.ref t1.a))
    (k1 : (t0.a, instObj 486 t0.d) ∈ news) (k2 : (t0.d, dictOf (t0.es p0 n0) t0.cnt) ∈ news) (k3 : (t0.lf, instObj 329 t0.lfd) ∈ news) (k4 : (t0.lfd, dictOf t0.les t0.lcnt) ∈ news)
    (k5 : (t1.a, instObj 486 t1.d) ∈ news) (k6 : (t1.d, dictOf (t1.es p1 n1) t1.cnt) ∈ news) (k7 : (t1.lf, instObj 329 t1.lfd) ∈ news) (k8 : (t1.lfd, dictOf t1.les t1.lcnt) ∈ news)
    (hret : ∀ h' tk', Fr base L h' (fun z => if z = Str.ofString "start" then some (.ref t0.lf) else if z = Str.ofString "end" then some (.ref t1.lf) else m z) → News base L h' ((cM, oM) :: (cP, oP) :: news) → Q .next { s with heap := h', toks := tk' }) :
    wpAny (model pr w) (callerA.deeper (lawEnv L a ccd (lawCells cT cL cP cM))) (execs (lawLoopFrom 15 6) (lawEnv L a ccd (lawCells cT cL cP cM))) Q E s := by
  k_with_none
  w_top off
  change wpAny _ (PySem.Around.deeper callerA (envX _ (PySem.Scope.mk _ _ _ _ _) _ _ _ _)) (execs (PySem.Stmt.If _ _ _ _ :: _) (envX _ (PySem.Scope.mk _ _ _ _ _) _ _ _ _)) _ _ _
  have g2 := y.gtok
  have f1 := t1.gline p1 n1
  have f2 := t1.gcol p1 n1
  have f3 := t1.gval p1 n1
  have f4 := t1.lline
  have f5 := t1.lcol
  have f6 := t1.lval
  have f7 := t0.gtype p0 n0
  have f8 := t0.ltype
  have f9 := t1.c0
  have f10 := t1.c1
  have f11 := t1.vlen
  have f12 : ((t0.kind == 53) != (t0.kind == 53)) = false := by simp
  refine wpAny_execs_cons ?_
  k_steps
  with_reducible rename Fr base L _ _ => hFz
  with_reducible rename News base L _ _ => hNz
  refine hret _ _ hFz (fun q hq => hNz q ?_)
  repeat (first | exact hq | refine .tail _ ?_)
theorem turnE2_c {w : World} {p : Program} {loose : List Str} {mean : ExcName → Option Value} {mg mb : Str → Option Value} (base : Heap) (L a : Addr) (ccd : Value) (cT cL cP cM : Addr) (oM oP : Obj) (m : Str → Option Value) (s : Shared) (Q : Flow → Shared → Prop) (E : Value → Shared → Prop)
    (mts : List (Tk w.params)) (y : Ln w.params) (t0 t1 : Tk w.params) (ky : Nat) (p0 n0 p1 n1 : Value) (news : Led)
    (B : Below callerA base [] base) (X : (hd.heap_39 w.params).In base) (T : Top p loose mean mg mb base)
    (F : Fr base L s.heap (fun z => if z = Str.ofString "start" then some (.ref t0.lf) else if z = Str.ofString "end" then some (.ref t1.lf) else m z))
    (N : News base L s.heap ((cM, oM) :: (cP, oP) :: news)) (dP : oP.data = .cell (some (.ref y.a)))
    (hy1 : (y.a, instObj 132 y.d) ∈ news) (hy2 : (y.d, dictOf y.es y.cnt) ∈ news) (hyl : (y.l, W.listOf (mts.map fun t => Value.ref t.a).toArray ky) ∈ news)
    (hx0 : (mts.map fun t => Value.ref t.a)[0]? = some (.ref t0.a)) (hxl : (mts.map fun t => Value.ref t.a).getLast? = some (.ref t1.a))
    (k1 : (t0.a, instObj 486 t0.d) ∈ news) (k2 : (t0.d, dictOf (t0.es p0 n0) t0.cnt) ∈ news) (k3 : (t0.lf, instObj 329 t0.lfd) ∈ news) (k4 : (t0.lfd, dictOf t0.les t0.lcnt) ∈ news)
    (k5 : (t1.a, instObj 486 t1.d) ∈ news) (k6 : (t1.d, dictOf (t1.es p1 n1) t1.cnt) ∈ news) (k7 : (t1.lf, instObj 329 t1.lfd) ∈ news) (k8 : (t1.lfd, dictOf t1.les t1.lcnt) ∈ news)
    (hret : ∀ h' tk', Fr base L h' (fun z => if z = Str.ofString "start" then some (.ref t0.lf) else if z = Str.ofString "end" then some (.ref t1.lf) else m z) → News base L h' ((cM, oM) :: (cP, oP) :: news) → Q .next { s with heap := h', toks := tk' }) :
    wpAny (model pr w) (callerA.deeper (lawEnv L a ccd (lawCells cT cL cP cM))) (execs (lawLoopFrom 15 5) (lawEnv L a ccd (lawCells cT cL cP cM))) Q E s := by
  k_with_none
  w_top off
  change wpAny _ (PySem.Around.deeper callerA (envX _ (PySem.Scope.mk _ _ _ _ _) _ _ _ _)) (execs (PySem.Stmt.If _ _ _ _ :: _) (envX _ (PySem.Scope.mk _ _ _ _ _) _ _ _ _)) _ _ _
  have g2 := y.gtok
  have e3 := t0.gline p0 n0
  have e4 := t0.gcol p0 n0
  have e5 := t0.lline
  have e6 := t0.lcol
  refine wpAny_execs_cons ?_
  k_steps
  refine ⟨?_⟩
  with_reducible rename Fr base L _ _ => hFz
  with_reducible rename News base L _ _ => hNz
  refine turnE3_c base L a ccd cT cL cP cM oM oP m _ Q E mts y t0 t1 ky p0 n0 p1 n1 news B X T hFz (fun q hq => hNz q ?_) dP hy1 hy2 hyl hx0 hxl k1 k2 k3 k4 k5 k6 k7 k8 ?_
  · repeat (first | exact hq | refine .tail _ ?_)
  · intro h' tk' F' N'
    exact hret h' tk' F' N'
theorem turnE_c {w : World} {p : Program} {loose : List Str} {mean : ExcName → Option Value} {mg mb : Str → Option Value} (base : Heap) (L a : Addr) (ccd : Value) (cT cL cP cM tl pl2 dl al : Addr) (oT oM oP : Obj) (vM vP : Option Value) (m : Str → Option Value) (s : Shared) (Q : Flow → Shared → Prop) (E : Value → Shared → Prop)
    (ts mts : List (Tk w.params)) (y : Ln w.params) (dep : Int) (dt : Tok) (kt k2 kd ku ky i : Nat) (ti : Tok) (ns : List Nat) (us dvs lvs : List Value) (pv nx : Nat → Value) (news : Led)
    (B : Below callerA base [] base) (X : (hd.heap_39 w.params).In base) (T : Top p loose mean mg mb base)
    (F : Fr base L s.heap (fun z => if z = Str.ofString "k" then some (.int (i : Int) ti) else if z = Str.ofString "due" then some (.ref dl) else if z = Str.ofString "told" then some (.ref pl2) else if z = Str.ofString "depth" then some (.int dep dt) else m z))
    (N : News base L s.heap ((cM, oM) :: (cP, oP) :: news)) (hne : @Ne Nat cM cP) (ho : OwnOff news [cM, cP]) (dM : oM.data = .cell vM) (dP : oP.data = .cell vP) (dT : oT.data = .cell (some (.ref tl)))
    (hcT : (cT, oT) ∈ news) (hl : (tl, W.listOf (ts.map fun t => Value.ref t.a).toArray kt) ∈ news) (hn : Stop (ts.length ≤ 8)) (hi : i < 1000)
    (hdl : (dl, W.listOf dvs.toArray kd) ∈ news) (hdv : dvs[((i : Int)).toNat]? = some (.ref al)) (hal : (al, W.listOf us.toArray ku) ∈ news) (hun : us.length = ns.length) (hui : ∀ (j n : Nat), ns[j]? = some n → ∃ t, us[j]? = some (.int (n : Int) t))
    (hpl : (pl2, W.listOf lvs.toArray k2) ∈ news) (hpv : lvs[((i : Int)).toNat]? = some (.ref y.a)) (hy1 : (y.a, instObj 132 y.d) ∈ news) (hy2 : (y.d, dictOf y.es y.cnt) ∈ news) (hyd : y.dep = dep) (hyl : (y.l, W.listOf (mts.map fun t => Value.ref t.a).toArray ky) ∈ news)
    (hml : mts.length = ns.length) (hmt : ∀ (j n : Nat), ns[j]? = some n → ∃ t, ts[n]? = some t ∧ mts[j]? = some t) (hm8 : Stop (mts.length ≤ 8)) (hm0 : 0 < mts.length)
    (ht : ∀ (j : Nat) (t : Tk w.params), mts[j]? = some t → ∀ q ∈ t.led (pv j) (nx j), q ∈ news)
    (hp0 : pv 0 = .none) (hpS : ∀ (j : Nat) (t : Tk w.params), mts[j]? = some t → pv (j + 1) = .ref t.a)
    (hn0 : ∀ j, j + 1 = mts.length → nx j = .none) (hnS : ∀ (j : Nat) (t : Tk w.params), mts[j + 1]? = some t → nx j = .ref t.a)
    (hret : ∀ oM' oP' h' tk' m', (∃ v, oM'.data = .cell v) → (∃ v, oP'.data = .cell v) → Fr base L h' m' → (∀ z, z ≠ Str.ofString "start" → z ≠ Str.ofString "end" → m' z = if z = Str.ofString "k" then some (.int (i : Int) ti) else if z = Str.ofString "due" then some (.ref dl) else if z = Str.ofString "told" then some (.ref pl2) else if z = Str.ofString "depth" then some (.int dep dt) else m z) →
      News base L h' ((cM, oM') :: (cP, oP') :: news) → Q .next { s with heap := h', toks := tk' }) :
    wpAny (model pr w) (callerA.deeper (lawEnv L a ccd (lawCells cT cL cP cM))) (execs (lawLoop 15) (lawEnv L a ccd (lawCells cT cL cP cM))) Q E s := by
  k_with_none
  w_top off
  change wpAny _ (PySem.Around.deeper callerA (envX _ (PySem.Scope.mk _ _ _ _ _) _ _ _ _)) (execs (_ :: _) (envX _ (PySem.Scope.mk _ _ _ _ _) _ _ _ _)) _ _ _
  have hvl : (ts.map fun t => Value.ref t.a).length = ts.length := List.length_map _
  have hvm : (mts.map fun t => Value.ref t.a).length = mts.length := List.length_map _
  have hi0 : 0 ≤ (i : Int) := by omega
  have hi1 : (i : Int) < 1000 := by omega
  k_steps
  refine ⟨?_⟩
  refine src_list (fun j y => ∃ t, mts[j]? = some t ∧ y = .ref t.a) rfl F N (.tail _ (.tail _ hal)) (by rw [hun, ← hml]; have := hm8.out; omega) ?_ ?_
  rotate_left
  · intro j v I oI C oC D ys m₂ h tk E' Q' hv hC hx F' N' hq
    have hj : j < ns.length := by have := (List.getElem?_eq_some_iff.mp hv).1; omega
    obtain ⟨tj, hj1⟩ := hui j ns[j] (List.getElem?_eq_getElem hj)
    have e := Option.some.inj (hv.symm.trans hj1)
    subst e
    obtain ⟨t, ht1, ht2⟩ := hmt j ns[j] (List.getElem?_eq_getElem hj)
    have hx0 : (ts.map fun t => Value.ref t.a)[((ns[j] : Nat) : Int).toNat]? = some (.ref t.a) := by rw [Int.toNat_natCast, List.getElem?_map, ht1]; rfl
    have hj0 : 0 ≤ ((ns[j] : Nat) : Int) := by omega
    have hj2 : ((ns[j] : Nat) : Int) < 1000 := by have := (List.getElem?_eq_some_iff.mp ht1).1; have := hn.out; omega
    clear N F
    k_steps
    exact hq _ _ _ ⟨t, ht2, rfl⟩ (by assumption) (by assumption)
  intro g ys hy1' hy2' D h1 tk1 F1 N1 o1
  rw [hun, ← hml] at hy1'
  obtain rfl := list_told hy1' hy2'
  rw [lst_eq hvm] at N1
  have hDM : @Ne Nat D cM := o1.1.symm
  have hDP : @Ne Nat D cP := o1.2.1.symm
  have N2 : News base L h1 ((cM, oM) :: (cP, oP) :: (D, W.listOf (mts.map fun t => Value.ref t.a).toArray mts.length) :: news) := fun q hq => N1 q (by
    simp only [List.mem_cons] at hq ⊢
    rcases hq with h | h | h | h
    · exact .inr (.inl h)
    · exact .inr (.inr (.inl h))
    · exact .inl h
    · exact .inr (.inr (.inr h)))
  have ho2 : OwnOff ((D, W.listOf (mts.map fun t => Value.ref t.a).toArray mts.length) :: news) [cM, cP] := by
    intro q hq b hb
    rcases List.mem_cons.mp hq with rfl | hq
    · rcases List.mem_cons.mp hb with rfl | hb
      · exact hDM
      · rw [List.mem_singleton.mp hb]; exact hDP
    · exact ho q hq b hb
  clear N1 N F o1 hy1' hy2'
  k_steps
  refine ⟨?_⟩
  with_reducible rename News base L _ _ => hN3
  with_reducible rename Fr base L _ _ => hF3
  with_reducible rename oP.data = _ => dPold
  rename_i oM1 _ _ oP1 _
  have g1 : getL (Str.ofString "depth") y.es = some (some (.int dep y.dt)) := hyd ▸ y.gdep
  have g2 := y.gtok
  have hdd : (dep != dep) = false := by simp
  have hmm : ((mts.length : Int) != (mts.length : Int)) = false := by simp
  have hm1 : mts.length ≤ 1000 := by have := hm8.out; omega
  obtain ⟨t0, ht0⟩ : ∃ t, mts[0]? = some t := ⟨_, List.getElem?_eq_getElem hm0⟩
  obtain ⟨t1, ht1⟩ : ∃ t, mts.getLast? = some t := ⟨_, List.getLast?_eq_some_getLast (fun e => by rw [e] at hm0; exact Nat.lt_irrefl _ hm0)⟩
  have ht1' := ht1
  rw [List.getLast?_eq_getElem?] at ht1'
  have hx0 : (mts.map fun t => Value.ref t.a)[0]? = some (.ref t0.a) := by rw [List.getElem?_map, ht0]; rfl
  have hxl : (mts.map fun t => Value.ref t.a).getLast? = some (.ref t1.a) := by rw [List.getLast?_map, ht1]; rfl
  have k1 : (t0.a, instObj 486 t0.d) ∈ news := ht 0 t0 ht0 _ (by simp [Tk.led])
  have k2 : (t0.d, dictOf (t0.es (pv 0) (nx 0)) t0.cnt) ∈ news := ht 0 t0 ht0 _ (by simp [Tk.led])
  have k3 : (t0.lf, instObj 329 t0.lfd) ∈ news := ht 0 t0 ht0 _ (by simp [Tk.led])
  have k4 : (t0.lfd, dictOf t0.les t0.lcnt) ∈ news := ht 0 t0 ht0 _ (by simp [Tk.led])
  have k5 : (t1.a, instObj 486 t1.d) ∈ news := ht _ t1 ht1' _ (by simp [Tk.led])
  have k6 : (t1.d, dictOf (t1.es (pv (mts.length - 1)) (nx (mts.length - 1))) t1.cnt) ∈ news := ht _ t1 ht1' _ (by simp [Tk.led])
  have k7 : (t1.lf, instObj 329 t1.lfd) ∈ news := ht _ t1 ht1' _ (by simp [Tk.led])
  have k8 : (t1.lfd, dictOf t1.les t1.lcnt) ∈ news := ht _ t1 ht1' _ (by simp [Tk.led])
  have hlm : (D, W.listOf (mts.map fun t => Value.ref t.a).toArray mts.length) ∈ (cM, oM1) :: (cP, oP1) :: (D, W.listOf (mts.map fun t => Value.ref t.a).toArray mts.length) :: news := .tail _ (.tail _ (.head _))
  refine wpAny_execs_cons ?_
  k_steps
  refine ⟨?_⟩
  with_reducible rename News base L _ _ => hN4
  refine chained_c _ _ _ _ _ _ _ _ _ _ _ _ _ _ _ _ _ _ _ _ D mts.length mts pv nx _ B (by assumption) X hN4 T hlm (fun i t h q hq => .tail _ (.tail _ (.tail _ (ht i t h q hq)))) hp0 hpS hn0 hnS hm8.out (by decide) (by decide) ?_
  intro h4 tk4 F4 N4
  clear hN4 hN3 hF3
  k_steps
  refine ⟨?_⟩
  refine wpAny_execs_cons ?_
  k_steps
  refine ⟨?_⟩
  with_reducible rename IsRange _ _ _ _ _ _ _ _ => hRg
  with_reducible rename Fr base L _ _ => hF5
  with_reducible rename News base L _ _ => hN5
  refine src_range (fun i y => y = .bool true) rfl hF5 hN5 hRg hm1 ?_ ?_
  rotate_left
  · intro j tj I oI C oC D' ys m₂ h tk E' Q' hj hC hx F' N' hq
    have hxj : (mts.map fun t => Value.ref t.a)[((j : Int)).toNat]? = some (.ref mts[j].a) := by simp [hj]
    have hj0 : 0 ≤ (j : Int) := by omega
    have hj1 : (j : Int) < 1000 := by omega
    clear hF5 hN5 hRg
    k_steps
    exact hq _ _ _ rfl (by assumption) (by assumption)
  intro g ys hy1' hy2' D5 h6 tk6 F6 N6 o6
  obtain rfl := bools_told (b := fun _ => true) hy1' hy2'
  clear hF5 hN5 hRg hy1' hy2' o6
  k_steps
  refine ⟨?_⟩
  refine LSm.all_bools F6 N6 rfl (isl_mem (k := _) N6 (.head _)) (bools_map _) ?_
  rw [all_trues']
  intro h7 tk7 F7 N7
  replace N7 : News base L h7 ((cM, oM1) :: (cP, oP1) :: (D, W.listOf (mts.map fun t => Value.ref t.a).toArray mts.length) :: news) := fun q hq => N7 q (.tail _ hq)
  clear F6 N6
  have e1 := t0.gnode (pv 0) (nx 0)
  have e2 := t1.gnode (pv (mts.length - 1)) (nx (mts.length - 1))
  k_steps
  refine ⟨?_⟩
  with_reducible rename Fr base L _ _ => hF8
  with_reducible rename News base L _ _ => hN8
  with_reducible rename oP1.data = _ => dP1
  refine turnE2_c base L a ccd cT cL cP cM oM1 oP1 _ _ _ _ mts y t0 t1 ky _ _ _ _ ((D, W.listOf (mts.map fun t => Value.ref t.a).toArray mts.length) :: news) B X T hF8 (fun q hq => hN8 q (.tail _ hq)) dP1 (.tail _ hy1) (.tail _ hy2) (.tail _ hyl) hx0 hxl (.tail _ k1) (.tail _ k2) (.tail _ k3) (.tail _ k4) (.tail _ k5) (.tail _ k6) (.tail _ k7) (.tail _ k8) ?_
  intro h9 tk9 F9 N9
  refine hret oM1 oP1 _ _ _ ⟨_, by assumption⟩ ⟨_, by assumption⟩ F9 (fun z h1 h2 => by simp [h1, h2]) (fun q hq => N9 q ?_)
  rcases List.mem_cons.mp hq with h | hq
  · rw [h]; exact .head _
  rcases List.mem_cons.mp hq with h | hq
  · rw [h]; exact .tail _ (.head _)
  · exact .tail _ (.tail _ (.tail _ hq))
end Mine
end
section
open PySem PySem.W PyProof.Rows PySem.Spec PySem.Calls
namespace Mine
local macro_rules | `(tactic| k_room) => `(tactic| (simp only [depth_under_make, depth_under_kw, depth_in1, depth_deeper, depth_caller, ktrTop]; omega))
local macro_rules | `(tactic| k_mem) => `(tactic| first | assumption | (refine List.mem_append_left _ ?_; assumption))
local macro_rules | `(tactic| walk_at "call builtin:len") => `(tactic| (k_here; (with_reducible show wpAny _ _ (call (Value.builtin _) [Value.ref _]) _ _ _); k_dflt (refine' len_mem ?N ?h ?n ?z ?_; (case N => k_asm); (case h => k_mem); (case n => with_reducible assumption); (case z => omega))))
local macro_rules | `(tactic| walk_at "subscriptTail Name Name ref int") => `(tactic| (k_here; (with_reducible show wpAny _ _ (subscriptTail _ _ (Value.ref _) (Value.int _ _)) _ _ _); k_dflt (refine' item_mem ?N ?h ?z ?y ?x ?_ ?s ?g; (case N => k_asm); (case h => k_mem); (case z => omega); (case y => omega); (case x => assumption); (case s => with_unfolding_all rfl); (case g => (intro _; with_unfolding_all rfl)))))
local macro_rules | `(tactic| walk_at "subscriptTail Name BinOp ref int") => `(tactic| (k_here; (with_reducible show wpAny _ _ (subscriptTail _ _ (Value.ref _) (Value.int _ _)) _ _ _); k_dflt (refine' item_mem ?N ?h ?z ?y ?x ?_ ?s ?g; (case N => k_asm); (case h => k_mem); (case z => omega); (case y => omega); (case x => assumption); (case s => with_unfolding_all rfl); (case g => (intro _; with_unfolding_all rfl)))))
local macro_rules | `(tactic| walk_at "truthy ref") => `(tactic| (k_here; k_dflt (refine' truthy_mem ?N ?h ?n ?z ?b ?_; (case N => k_asm); (case h => k_mem); (case n => with_reducible assumption); (case z => omega); (case b => assumption))))
local macro_rules | `(tactic| walk_at "setAttr ref") => `(tactic| (k_here; (with_reducible show wpAny _ _ (setAttr (Value.ref _) (Str.ofString "previous_token") _) _ _ _); k_dflt (refine' set_prev ?F ?X ?N ?m ?U ?_; (case F => k_asm); (case X => k_asm); (case N => k_asm); (case m => k_mem); (case U => k_upd)); intro h' F' N'; (try k_sweep)))
local macro_rules | `(tactic| walk_at "setAttr ref") => `(tactic| (k_here; (with_reducible show wpAny _ _ (setAttr (Value.ref _) (Str.ofString "next_token") _) _ _ _); k_dflt (refine' set_next ?F ?X ?N ?m ?U ?_; (case F => k_asm); (case X => k_asm); (case N => k_asm); (case m => k_mem); (case U => k_upd)); intro h' F' N'; (try k_sweep)))
local macro_rules | `(tactic| walk_at "getAttr ref") => `(tactic| (k_here; k_dflt (refine' get_own ?k1 ?k2 ?k3 ?k4 ?k5 ?k6 ?k7 ?k8 ?k9 ?_; (case k1 => k_asm); (case k2 => k_asm); (case k3 => k_inst); (case k4 => k_is); (case k5 => k_is); (case k6 => k_is); (case k7 => k_is); (case k8 => assumption); (case k9 => k_handed); k_whole)))
local macro_rules | `(tactic| walk_at "call ref") => `(tactic| (k_here; k_dflt (first
  | (refine' call_cls ?k1 ?k2 ?k3 ?k4 ?k5 ?k6 ?_; (case k1 => k_asm); (case k2 => k_asm); (case k3 => k_asm); (case k4 => k_is); (case k5 => k_is); (case k6 => k_is); k_whole; intro x' d' h' F' N' l1 l2; (try k_lt l1); (try k_lt2 l2); (try k_sweep); k_enter)
  | (refine' call_meth ?k1 ?k2 ?_; (case k1 => k_asm); (case k2 => k_mem); k_whole; k_enter)
  | (refine wpAny_call ?_; k_enter))))

local macro_rules | `(tactic| walk_at "call ref") => `(tactic| (k_here; (with_reducible show wpAny _ _ (call (Value.ref 504) _) _ _ _); refine stop_here ?_))
local macro_rules | `(tactic| walk_at "call ref") => `(tactic| (k_here; (with_reducible show wpAny _ _ (call (Value.ref 329) _) _ _ _); refine stop_here ?_))
local macro_rules | `(tactic| walk_at "call ref") => `(tactic| (k_here; (with_reducible show wpAny _ _ (call (Value.ref 486) _) _ _ _); refine stop_here ?_))
local macro_rules | `(tactic| walk_at "call ref") => `(tactic| (k_here; (with_reducible show wpAny _ _ (call (Value.ref 132) _) _ _ _); refine stop_here ?_))
local macro_rules | `(tactic| walk_at "call ref") => `(tactic| (k_here; (with_reducible show wpAny _ _ (call (Value.ref 518) _) _ _ _); refine stop_here ?_))
local macro_rules | `(tactic| walk_at "call ref") => `(tactic| (k_here; (with_reducible show wpAny _ _ (call (Value.ref 74) _) _ _ _); refine stop_here ?_))
local macro_rules | `(tactic| walk_at "call ref") => `(tactic| (k_here; (with_reducible show wpAny _ _ (call (Value.ref 511) _) _ _ _); refine stop_here ?_))
local macro_rules | `(tactic| walk_at "call ref") => `(tactic| (k_here; (with_reducible show wpAny _ _ (call (Value.ref 525) _) _ _ _); refine stop_here ?_))
local macro_rules | `(tactic| walk_at "getAttr ref") => `(tactic| (k_here; (with_reducible show wpAny _ _ (getAttr (Value.ref _) (Str.ofString "has_semicolon") _) _ _ _); k_dflt (refine' get_prop ?k1 ?k2 ?k3 ?k4 ?k5 ?k6 ?k7 ?k8 ?k9 ?_; (case k1 => k_asm); (case k2 => k_asm); (case k3 => k_inst); (case k4 => k_is); (case k5 => k_is); (case k6 => k_is); (case k7 => k_is); (case k8 => k_is); (case k9 => k_is); k_whole; refine stop_here ?_)))
local macro_rules | `(tactic| walk_at "getMethod ref") => `(tactic| (k_here; k_dflt (refine' method_inst ?k1 ?k2 ?k3 ?k4 ?k5 ?k6 ?k7 ?_; (case k1 => k_asm); (case k2 => k_asm); (case k3 => k_inst); (case k4 => k_is); (case k5 => k_is); (case k6 => k_is); (case k7 => assumption); k_whole)))
theorem fillG {w : World} {h₀ : Heap} (X : (hd.heap_39 w.params).In h₀) : (hd.heap_39 w.params).In h₀ ∧ PySem.Challenge.rw_bu5043_01 = PySem.Challenge.rw_bu5043_01 := by
  k_fill
  exact ⟨X, rfl⟩
theorem fr_congr {h₀ h : Heap} {L : Addr} {m m' : Str → Option Value} (F : Fr h₀ L h m) (e : ∀ y, m y = m' y) : Fr h₀ L h m' := (funext e : m = m') ▸ F
abbrev seSt : List Str := [Str.ofString "start", Str.ofString "end"]
abbrev seM (u m : Str → Option Value) : Str → Option Value := fun z => if seSt.contains z then u z else m z
abbrev se3 (a b c : Value) (m : Str → Option Value) : Str → Option Value := fun z => if z = Str.ofString "due" then some a else if z = Str.ofString "told" then some b else if z = Str.ofString "depth" then some c else m z
theorem se_swap (a b c : Value) (m u : Str → Option Value) (y : Str) : (if seSt.contains y then u y else se3 a b c m y) = se3 a b c (seM u m) y := by
  by_cases h2 : y = Str.ofString "due"
  · subst h2
    have h : seSt.contains (Str.ofString "due") = false := by decide +kernel
    simp only [se3, h, if_true, Bool.false_eq_true, if_false]
  by_cases h3 : y = Str.ofString "told"
  · subst h3
    have h : seSt.contains (Str.ofString "told") = false := by decide +kernel
    simp only [se3, h, if_true, Bool.false_eq_true, if_false, if_neg h2]
  by_cases h4 : y = Str.ofString "depth"
  · subst h4
    have h : seSt.contains (Str.ofString "depth") = false := by decide +kernel
    simp only [se3, h, if_true, Bool.false_eq_true, if_false, if_neg h2, if_neg h3]
  · simp only [se3, seM, if_neg h2, if_neg h3, if_neg h4]
theorem segE_c {w : World} {p : Program} {loose : List Str} {mean : ExcName → Option Value} {mg mb : Str → Option Value} (base : Heap) (L a : Addr) (ccd : Value) (cT cL cP cM tl pl pl2 dl : Addr) (oT oM oP : Obj) (vM vP : Option Value) (as : List Addr) (ls : List (Ln w.params)) (kt k2 kd : Nat) (m : Str → Option Value) (s : Shared) (Q : Flow → Shared → Prop) (E : Value → Shared → Prop)
    (ts : List (Tk w.params)) (dep : Int) (dt : Tok) (news : Led)
    (B : Below callerA base [] base) (X : (hd.heap_39 w.params).In base) (T : Top p loose mean mg mb base)
    (F : Fr base L s.heap (fun z => if z = Str.ofString "due" then some (.ref dl) else if z = Str.ofString "told" then some (.ref pl2) else if z = Str.ofString "depth" then some (.int dep dt) else m z))
    (N : News base L s.heap ((cM, oM) :: (cP, oP) :: news)) (hne : @Ne Nat cM cP) (ho : OwnOff news [cM, cP]) (dM : oM.data = .cell vM) (dP : oP.data = .cell vP) (dT : oT.data = .cell (some (.ref tl)))
    (hcT : (cT, oT) ∈ news) (hl : (tl, W.listOf (ts.map fun t => Value.ref t.a).toArray kt) ∈ news) (hn : Stop (ts.length ≤ 8))
    (hdl : (dl, W.listOf ((as.take (dueU (semiAt ts) ts.length).length).map Value.ref).toArray kd) ∈ news) (hP : PartsIn news pl as (partsU (semiAt ts) ts.length))
    (hdn : ∀ ns ∈ dueU (semiAt ts) ts.length, ns ≠ []) (hL : LinesIn news ts dep pl2 ls (dueU (semiAt ts) ts.length))
    (hm : (pl2, W.listOf (ls.map fun z => Value.ref z.a).toArray k2) ∈ news) (hT : TIn ts (pvK ts (dueU (semiAt ts) ts.length)) (nxK ts (dueU (semiAt ts) ts.length)) news)
    (hE : PassesOwn (model pr w) (callerA.deeper (lawEnv L a ccd (lawCells cT cL cP cM))) (lawEnv L a ccd (lawCells cT cL cP cM)) E)
    (hret : ∀ oM' oP' h' tk' m', Fr base L h' m' → (∀ z, z ≠ Str.ofString "k" → z ≠ Str.ofString "start" → z ≠ Str.ofString "end" → m' z = if z = Str.ofString "due" then some (.ref dl) else if z = Str.ofString "told" then some (.ref pl2) else if z = Str.ofString "depth" then some (.int dep dt) else m z) →
      News base L h' ((cM, oM') :: (cP, oP') :: news) →
      wpAny (model pr w) (callerA.deeper (lawEnv L a ccd (lawCells cT cL cP cM))) (execs (lawFrom 16) (lawEnv L a ccd (lawCells cT cL cP cM))) Q E { s with heap := h', toks := tk' }) :
    wpAny (model pr w) (callerA.deeper (lawEnv L a ccd (lawCells cT cL cP cM))) (execs (lawFrom 15) (lawEnv L a ccd (lawCells cT cL cP cM))) Q E s := by
  k_with_none
  w_top off
  change wpAny _ (PySem.Around.deeper callerA (envX _ (PySem.Scope.mk _ _ _ _ _) _ _ _ _)) (execs (PySem.Stmt.For _ _ _ _ _ :: _) (envX _ (PySem.Scope.mk _ _ _ _ _) _ _ _ _)) _ _ _
  have hll := hL.len
  have hal := hP.len
  have hdl2 : (dueU (semiAt ts) ts.length).length ≤ as.length := by rw [due_take, List.length_take, hal]; omega
  have hdl3 : (dueU (semiAt ts) ts.length).length ≤ 1000 := by have := partsU_len (semiAt ts) ts.length; have := hn.out; omega
  have hvd : ((as.take (dueU (semiAt ts) ts.length).length).map Value.ref).length = (dueU (semiAt ts) ts.length).length := by rw [List.length_map, List.length_take]; omega
  k_with "pyIter ref" => refine stop_here ?_
  refine wpAny_execs_cons ?_
  refine For_invVF (hE := hE) F rfl rfl ?_
  k_steps
  refine ⟨?_⟩
  with_reducible rename IsRange _ _ _ _ _ _ _ _ => hRg
  with_reducible rename Fr base L _ _ => hF
  with_reducible rename News base L _ _ => hN
  refine rg_loop (σ := Obj × Obj) (fun _ => []) [Str.ofString "start", Str.ofString "end"] (fun i σ nx => nx = (cM, σ.1) :: (cP, σ.2) :: news ∧ (∃ v, σ.1.data = .cell v) ∧ ∃ v, σ.2.data = .cell v) (oM, oP) rfl hRg hdl3 hF hN (fun _ h => nomatch h) ⟨rfl, ⟨_, dM⟩, _, dP⟩ ?_ ?_
  · rintro i ⟨oM1, oP1⟩ ti u nx h tk own hi hoff ⟨rfl, ⟨vM1, dM1⟩, vP1, dP1⟩ F₁ N₁
    obtain ⟨ns, hns⟩ : ∃ ns, (dueU (semiAt ts) ts.length)[i]? = some ns := ⟨_, List.getElem?_eq_getElem hi⟩
    have hnm := List.mem_of_getElem? hns
    obtain ⟨z, hz⟩ : ∃ z, ls[i]? = some z := ⟨_, List.getElem?_eq_getElem (by omega)⟩
    obtain ⟨al, hal2⟩ : ∃ al, as[i]? = some al := ⟨_, List.getElem?_eq_getElem (by omega)⟩
    have hpi : (partsU (semiAt ts) ts.length)[i]? = some ns := by
      have := hns
      rw [due_take, List.getElem?_take] at this
      rw [if_pos hi] at this; exact this
    obtain ⟨us, ku, hum, hui⟩ := hP.each i al ns hal2 hpi
    obtain ⟨hz1, hz2, kz, hz3⟩ := hL.each i z ns hz hns
    rw [mts_map (ts := ts) (fun t => Value.ref t.a) (tokAt ts) (fun n t h => by simp [tokAt, h]) (due_el hnm)] at hz3
    have hmlen := mts_len (due_el hnm)
    have hml8 : Stop ((mtsOf ts ns).length ≤ 8) := ⟨by rw [hmlen]; have := partsU_each (semiAt ts) ts.length ns (dueU_sub ns hnm); have := hn.out; omega⟩
    have hml0 : 0 < (mtsOf ts ns).length := by rw [hmlen]; exact List.length_pos_iff.mpr (hdn ns hnm)
    have hoW : OwnOff (news ++ own) [cM, cP] := by
      intro q hq b hb
      rcases List.mem_append.mp hq with hq | hq
      · exact ho q hq b hb
      · refine hoff q hq b ?_
        rcases List.mem_cons.mp hb with rfl | hb
        · simp
        · rw [List.mem_singleton.mp hb]; simp
    refine turnE_c base L a ccd cT cL cP cM tl pl2 dl al oT oM1 oP1 vM1 vP1 _ _ _ _ ts (mtsOf ts ns) z dep dt kt k2 kd ku kz i ti ns us _ _ (pvM ts (dueU (semiAt ts) ts.length) ns) (nxM ts (dueU (semiAt ts) ts.length) ns) (news ++ own) B X T (fr_congr F₁ (m' := fun y => if y = Str.ofString "k" then some (.int (i : Int) ti) else se3 (.ref dl) (.ref pl2) (.int dep dt) (seM u m) y) fun y => ?_)
      (show News base L h ((cM, oM1) :: (cP, oP1) :: (news ++ own)) from N₁) hne hoW dM1 dP1 dT (List.mem_append_left _ hcT) (List.mem_append_left _ hl) hn (by omega) (List.mem_append_left _ hdl) ?_ (List.mem_append_left _ hum) hui.1 hui.2 (List.mem_append_left _ hm) ?_ (List.mem_append_left _ (hz1 _ (by simp [Ln.led]))) (List.mem_append_left _ (hz1 _ (by simp [Ln.led]))) hz2 (List.mem_append_left _ hz3)
      hmlen (mts_get (due_el hnm)) hml8 hml0 (fun j t e q hq => List.mem_append_left _ (mts_tin (due_el hnm) hT j t e q hq)) (pvM_zero hnm (hdn ns hnm)) (pvM_succ hnm) (nxM_last hnm) (nxM_succ hnm) ?_
    · show (if y = Str.ofString "k" then some (.int (i : Int) ti) else if seSt.contains y then u y else se3 (.ref dl) (.ref pl2) (.int dep dt) m y) = _
      rw [se_swap]
    · rw [List.getElem?_map, Int.toNat_natCast, List.getElem?_take, if_pos hi, hal2]; rfl
    · rw [List.getElem?_map, Int.toNat_natCast, hz]; rfl
    · intro oM2 oP2 h2 tk2 m2 hM2 hP2 F2 hm2 N2
      refine InvEndG.intro (nx := (cM, oM2) :: (cP, oP2) :: news) F2 N2 ⟨(oM2, oP2), ⟨rfl, hM2, hP2⟩, (fun _ h => nomatch h), ?_⟩ ?_ ?_ ?_
      · intro z1 h1 _ h3
        rw [hm2 z1 (fun e => by subst e; exact absurd h3 (by decide +kernel)) (fun e => by subst e; exact absurd h3 (by decide +kernel)), if_neg h1]
        show se3 (.ref dl) (.ref pl2) (.int dep dt) (seM u m) z1 = _
        rw [← se_swap, if_neg (by rw [h3]; decide)]
      · intro q hq b hb
        exact hoff q hq b (by simpa using hb)
      · intro q hq
        rcases List.mem_cons.mp hq with rfl | hq
        · exact .head _
        rcases List.mem_cons.mp hq with rfl | hq
        · exact .tail _ (.head _)
        · exact .tail _ (.tail _ (List.mem_append_left _ hq))
      · exact fun q hq => .tail _ (.tail _ (List.mem_append_right _ hq))
  · rintro ⟨oM1, oP1⟩ u nx h tk ⟨rfl, _, _⟩ F₁ N₁
    refine hret oM1 oP1 h _ _ F₁ (fun z h1 h2 h3 => ?_) N₁
    show (if z = Str.ofString "k" then u z else if seSt.contains z then u z else se3 (.ref dl) (.ref pl2) (.int dep dt) m z) = _
    have hs : seSt.contains z = false := by
      rw [Bool.eq_false_iff]
      intro e
      rcases List.mem_cons.mp (List.contains_iff_mem.mp e) with e | e
      · exact h2 e
      · exact h3 (List.mem_singleton.mp e)
    rw [if_neg h1, if_neg (by rw [hs]; decide)]
end Mine
end
section
open PySem PySem.W PyProof.Rows PySem.Spec PySem.Calls
namespace Mine
local macro_rules | `(tactic| k_room) => `(tactic| (simp only [depth_under_make, depth_under_kw, depth_in1, depth_deeper, depth_caller, ktrTop]; omega))
local macro_rules | `(tactic| k_mem) => `(tactic| first | assumption | (refine List.mem_append_left _ ?_; assumption))
local macro_rules | `(tactic| walk_at "call builtin:len") => `(tactic| (k_here; (with_reducible show wpAny _ _ (call (Value.builtin _) [Value.ref _]) _ _ _); k_dflt (refine' len_mem ?N ?h ?n ?z ?_; (case N => k_asm); (case h => k_mem); (case n => with_reducible assumption); (case z => omega))))
local macro_rules | `(tactic| walk_at "subscriptTail Name Name ref int") => `(tactic| (k_here; (with_reducible show wpAny _ _ (subscriptTail _ _ (Value.ref _) (Value.int _ _)) _ _ _); k_dflt (refine' item_mem ?N ?h ?z ?y ?x ?_ ?s ?g; (case N => k_asm); (case h => k_mem); (case z => omega); (case y => omega); (case x => assumption); (case s => with_unfolding_all rfl); (case g => (intro _; with_unfolding_all rfl)))))
local macro_rules | `(tactic| walk_at "subscriptTail Name BinOp ref int") => `(tactic| (k_here; (with_reducible show wpAny _ _ (subscriptTail _ _ (Value.ref _) (Value.int _ _)) _ _ _); k_dflt (refine' item_mem ?N ?h ?z ?y ?x ?_ ?s ?g; (case N => k_asm); (case h => k_mem); (case z => omega); (case y => omega); (case x => assumption); (case s => with_unfolding_all rfl); (case g => (intro _; with_unfolding_all rfl)))))
local macro_rules | `(tactic| walk_at "truthy ref") => `(tactic| (k_here; k_dflt (refine' truthy_mem ?N ?h ?n ?z ?b ?_; (case N => k_asm); (case h => k_mem); (case n => with_reducible assumption); (case z => omega); (case b => assumption))))
local macro_rules | `(tactic| walk_at "setAttr ref") => `(tactic| (k_here; (with_reducible show wpAny _ _ (setAttr (Value.ref _) (Str.ofString "previous_token") _) _ _ _); k_dflt (refine' set_prev ?F ?X ?N ?m ?U ?_; (case F => k_asm); (case X => k_asm); (case N => k_asm); (case m => k_mem); (case U => k_upd)); intro h' F' N'; (try k_sweep)))
local macro_rules | `(tactic| walk_at "setAttr ref") => `(tactic| (k_here; (with_reducible show wpAny _ _ (setAttr (Value.ref _) (Str.ofString "next_token") _) _ _ _); k_dflt (refine' set_next ?F ?X ?N ?m ?U ?_; (case F => k_asm); (case X => k_asm); (case N => k_asm); (case m => k_mem); (case U => k_upd)); intro h' F' N'; (try k_sweep)))
local macro_rules | `(tactic| walk_at "getAttr ref") => `(tactic| (k_here; k_dflt (refine' get_own ?k1 ?k2 ?k3 ?k4 ?k5 ?k6 ?k7 ?k8 ?k9 ?_; (case k1 => k_asm); (case k2 => k_asm); (case k3 => k_inst); (case k4 => k_is); (case k5 => k_is); (case k6 => k_is); (case k7 => k_is); (case k8 => assumption); (case k9 => k_handed); k_whole)))
local macro_rules | `(tactic| walk_at "call ref") => `(tactic| (k_here; k_dflt (first
  | (refine' call_cls ?k1 ?k2 ?k3 ?k4 ?k5 ?k6 ?_; (case k1 => k_asm); (case k2 => k_asm); (case k3 => k_asm); (case k4 => k_is); (case k5 => k_is); (case k6 => k_is); k_whole; intro x' d' h' F' N' l1 l2; (try k_lt l1); (try k_lt2 l2); (try k_sweep); k_enter)
  | (refine' call_meth ?k1 ?k2 ?_; (case k1 => k_asm); (case k2 => k_mem); k_whole; k_enter)
  | (refine wpAny_call ?_; k_enter))))

local macro_rules | `(tactic| walk_at "call ref") => `(tactic| (k_here; (with_reducible show wpAny _ _ (call (Value.ref 504) _) _ _ _); refine stop_here ?_))
local macro_rules | `(tactic| walk_at "call ref") => `(tactic| (k_here; (with_reducible show wpAny _ _ (call (Value.ref 329) _) _ _ _); refine stop_here ?_))
local macro_rules | `(tactic| walk_at "call ref") => `(tactic| (k_here; (with_reducible show wpAny _ _ (call (Value.ref 486) _) _ _ _); refine stop_here ?_))
local macro_rules | `(tactic| walk_at "call ref") => `(tactic| (k_here; (with_reducible show wpAny _ _ (call (Value.ref 132) _) _ _ _); refine stop_here ?_))
local macro_rules | `(tactic| walk_at "call ref") => `(tactic| (k_here; (with_reducible show wpAny _ _ (call (Value.ref 518) _) _ _ _); refine stop_here ?_))
local macro_rules | `(tactic| walk_at "call ref") => `(tactic| (k_here; (with_reducible show wpAny _ _ (call (Value.ref 74) _) _ _ _); refine stop_here ?_))
local macro_rules | `(tactic| walk_at "call ref") => `(tactic| (k_here; (with_reducible show wpAny _ _ (call (Value.ref 511) _) _ _ _); refine stop_here ?_))
local macro_rules | `(tactic| walk_at "call ref") => `(tactic| (k_here; (with_reducible show wpAny _ _ (call (Value.ref 525) _) _ _ _); refine stop_here ?_))
local macro_rules | `(tactic| walk_at "getAttr ref") => `(tactic| (k_here; (with_reducible show wpAny _ _ (getAttr (Value.ref _) (Str.ofString "has_semicolon") _) _ _ _); k_dflt (refine' get_prop ?k1 ?k2 ?k3 ?k4 ?k5 ?k6 ?k7 ?k8 ?k9 ?_; (case k1 => k_asm); (case k2 => k_asm); (case k3 => k_inst); (case k4 => k_is); (case k5 => k_is); (case k6 => k_is); (case k7 => k_is); (case k8 => k_is); (case k9 => k_is); k_whole; refine stop_here ?_)))
local macro_rules | `(tactic| walk_at "getMethod ref") => `(tactic| (k_here; k_dflt (refine' method_inst ?k1 ?k2 ?k3 ?k4 ?k5 ?k6 ?k7 ?_; (case k1 => k_asm); (case k2 => k_asm); (case k3 => k_inst); (case k4 => k_is); (case k5 => k_is); (case k6 => k_is); (case k7 => assumption); k_whole)))
local macro_rules | `(tactic| walk_at "eval ListComp") => `(tactic| (k_here; k_dflt (refine LCg.ListComp_U (F₀ := by k_asm) (by with_unfolding_all rfl) (by decide) (by rfl) (by decide) (by rfl) ?_)))
local macro_rules | `(tactic| walk_at "exec Assign cons ListComp") => `(tactic| (k_here; k_dflt (refine LCg.Assign_ListComp_U (F₀ := by k_asm) (by rfl) (by with_unfolding_all rfl) (by with_unfolding_all rfl) (by decide) (by rfl) (by decide) (by rfl) (by rfl) (by rfl) ?_)))
local macro_rules | `(tactic| walk_at "CompSrc") => `(tactic| refine stop_here ?_)
local macro_rules | `(tactic| walk_at "FinA") => `(tactic| refine stop_here ?_)
local macro_rules | `(tactic| walk_at "FinE") => `(tactic| refine stop_here ?_)
local macro_rules | `(tactic| walk_at "execs cons") => `(tactic| (k_here; (with_reducible show wpAny _ _ (execs (PySem.Stmt.If _ _ _ _ :: _) _) _ _ _); refine stop_here ?_))
local macro_rules | `(tactic| walk_at "exec Assign cons ListComp") => `(tactic| (k_here; k_dflt (refine comp_gen (F₀ := by k_asm) (by rfl) (by with_unfolding_all rfl) (by with_unfolding_all rfl) (by decide) (by rfl) (by decide) (by rfl) (by rfl) (by rfl) ?_)))
local macro_rules | `(tactic| walk_at "GSrc") => `(tactic| refine stop_here ?_)
local macro_rules | `(tactic| walk_at "call builtin:str.join") => `(tactic| refine stop_here ?_)
local macro_rules | `(tactic| walk_at "call builtin:str.rstrip") => `(tactic| refine stop_here ?_)
local macro_rules | `(tactic| walk_at "binaryOp Add str str") => `(tactic| (k_here; (with_reducible show wpAny _ _ (binaryOp Operator.Add (Value.str _ _) (Value.str _ _)) _ _ _); (refine' add_str' ?h1 ?h2 ?_; (case h1 => assumption); (case h2 => assumption)); intro _ _))
local macro_rules | `(tactic| walk_at "subscriptTail Name UnaryOp ref int") => `(tactic| (k_here; (with_reducible show wpAny _ _ (subscriptTail _ _ (Value.ref _) (Value.int _ _)) _ _ _); k_dflt (with_unfolding_all refine' last_mem ?N ?h ?x ?_ ?s ?g; (case N => k_asm); (case h => k_mem); (case x => assumption); (case s => with_unfolding_all rfl); (case g => (intro _; with_unfolding_all rfl)))))
theorem fillF {w : World} {h₀ : Heap} (X : (hd.heap_39 w.params).In h₀) : (hd.heap_39 w.params).In h₀ ∧ PySem.Challenge.rw_bu5043_01 = PySem.Challenge.rw_bu5043_01 := by
  k_fill
  exact ⟨X, rfl⟩
theorem off_one {D : Addr} : ∀ {l : Led}, LCg.Off1 D l → OwnOff l [D]
  | [], _ => fun p hp => nomatch hp
  | p :: r, h => fun q hq b hb => by
    rw [List.mem_singleton.mp hb]
    rcases List.mem_cons.mp hq with rfl | hq
    · exact h.1
    · exact off_one h.2 q hq D (.head _)
theorem strs_snoc : ∀ {vs : List Value} {l : List Str}, StrsAre vs l → ∀ (a : Str) (t : Tok), StrsAre (vs ++ [Value.str a t]) (l ++ [a])
  | _, _, .nil, a, t => .cons a t .nil
  | _, _, .cons y u h, a, t => .cons y u (strs_snoc h a t)
theorem strs_told {α : Type} {f : α → Str} : ∀ {ys : List Value} {l : List α}, ys.length = l.length → (∀ (i : Nat) (y : Value), ys[i]? = some y → ∃ a t, l[i]? = some a ∧ y = .str (f a) t) → StrsAre ys (l.map f)
  | [], [], _, _ => .nil
  | [], _ :: _, h, _ => by simp at h
  | _ :: _, [], h, _ => by simp at h
  | y :: ys, a :: l, h, h2 => by
    obtain ⟨b, t, e1, rfl⟩ := h2 0 y rfl
    cases e1
    exact .cons _ _ (strs_told (by simpa using h) fun i y hy => h2 (i + 1) y (by simpa using hy))
theorem segF_c {w : World} {p : Program} {loose : List Str} {mean : ExcName → Option Value} {mg mb : Str → Option Value} (base : Heap) (L a : Addr) (ccd : Value) (cT cL cP cM pl pl2 : Addr) (as : List Addr) (ls : List (Ln w.params)) (k2 : Nat) (m : Str → Option Value) (s : Shared) (Q : Flow → Shared → Prop) (E : Value → Shared → Prop)
    (ts : List (Tk w.params)) (dep : Int) (dt tc : Tok) (news : Led) (ps : Array Value)
    (B : Below callerA base [] base) (X : (hd.heap_39 w.params).In base) (T : Top p loose mean mg mb base) (hg : AllBare s.gens)
    (F : Fr base L s.heap (fun z => if z = Str.ofString "told" then some (.ref pl2) else if z = Str.ofString "parts" then some (.ref pl) else if z = Str.ofString "code" then some (.str (Txt.mul (Str.ofString " ") (2 * dep) ++ Txt.join (Str.ofString " ") (ts.map fun t => t.val)) tc) else if z = Str.ofString "depth" then some (.int dep dt) else m z))
    (N : News base L s.heap news) (hn : Stop (ts.length ≤ 8)) (hok : ∀ t ∈ ts, okV t.val) (hd0 : 0 ≤ dep) (hd1 : dep ≤ 3)
    (hP1 : (69, tabO ps) ∈ news) (hps : GTab tabP1 ps) (hP : PartsIn news pl as (partsU (semiAt ts) ts.length))
    (hsemi : (ts.any fun t => t.val == Str.ofString ";") = true) (hne : ∀ ns ∈ dueU (semiAt ts) ts.length, ns ≠ []) (hL : LinesIn news ts dep pl2 ls (dueU (semiAt ts) ts.length))
    (hm : (pl2, W.listOf (ls.map fun z => Value.ref z.a).toArray k2) ∈ news) (hT : TIn ts (pvK ts (dueU (semiAt ts) ts.length)) (nxK ts (dueU (semiAt ts) ts.length)) news)
    (hend : ∀ s' m' led, Fr base L s'.heap m' → News base L s'.heap led → (∃ ps', (69, tabO ps') ∈ led) → (∀ q ∈ news, q.1 ≠ 69 → q ∈ led) → AllBare s'.gens → s'.os = s.os → Q (.ret (.bool true)) s') :
    wpAny (model pr w) (callerA.deeper (lawEnv L a ccd (lawCells cT cL cP cM))) (execs (lawFrom 16) (lawEnv L a ccd (lawCells cT cL cP cM))) Q E s := by
  k_with_none
  w_top off
  change wpAny _ (PySem.Around.deeper callerA (envX _ (PySem.Scope.mk _ _ _ _ _) _ _ _ _)) (execs (_ :: _) (envX _ (PySem.Scope.mk _ _ _ _ _) _ _ _ _)) _ _ _
  have hll := hL.len
  have hdl : (dueU (semiAt ts) ts.length).length ≤ 1000 := by
    rw [due_take, List.length_take]; have := partsU_len (semiAt ts) ts.length; have := hn.out; omega
  k_steps
  refine ⟨?_⟩
  refine ⟨pl2, ls.map fun z => Value.ref z.a, k2, news, fun i ys nx => (∃ ps, (69, tabO ps) ∈ nx ∧ GTab tabP1 ps) ∧ (∀ q ∈ news, q.1 ≠ 69 → q ∈ nx) ∧ ys.length = i ∧ ∀ (j : Nat) (y : Value), ys[j]? = some y → ∃ ns t, (dueU (semiAt ts) ts.length)[j]? = some ns ∧ y = .str (cdOf ts dep ns) t,
    fun s' => AllBare s'.gens ∧ s'.os = s.os, rfl, rfl, F, N, hm, by rw [List.length_map, hll]; exact hdl, ⟨hg, rfl⟩, fun _ _ _ h => h, ⟨⟨ps, hP1, hps⟩, fun q hq _ => hq, rfl, by simp⟩, ?_, ?_⟩
  · rintro i v ys nx I oI C oC D m₂ s' E' Q' hv ⟨⟨ps1, hp1, hps1⟩, hK, hyl, hys⟩ ⟨hg1, hos1⟩ hC hx F1 N1 off ne hml hq
    rw [List.getElem?_map] at hv
    obtain ⟨z, hz, rfl⟩ := Option.map_eq_some_iff.mp hv
    have hi := (List.getElem?_eq_some_iff.mp hz).1
    obtain ⟨ns, hns⟩ : ∃ ns, (dueU (semiAt ts) ts.length)[i]? = some ns := ⟨_, List.getElem?_eq_getElem (by omega)⟩
    have hnm : ns ∈ dueU (semiAt ts) ts.length := List.mem_of_getElem? hns
    obtain ⟨hz1, hz2, kz, hz3⟩ := hL.each i z ns hz hns
    rw [mts_map (ts := ts) (fun t => Value.ref t.a) (tokAt ts) (fun n t h => by simp [tokAt, h]) (due_el hnm)] at hz3
    have n69l : ∀ q ∈ news, q.2.cls ≠ Value.none → q.1 ≠ 69 := fun q hq hc => ne_of_cls N (a := q.1) (o := q.2) hq hP1 hc
    have hz1' : ∀ q ∈ z.led, q ∈ (I, oI) :: (C, oC) :: (D, LCg.lst ys) :: nx := fun q hq => .tail _ (.tail _ (.tail _ (hK q (hz1 q hq) (n69l q (hz1 q hq) (by
      rcases List.mem_cons.mp hq with rfl | hq
      · intro e; cases e
      · rw [List.mem_singleton.mp hq]; intro e; cases e)))))
    have hz3' : (z.l, W.listOf ((mtsOf ts ns).map fun t => Value.ref t.a).toArray kz) ∈ (I, oI) :: (C, oC) :: (D, LCg.lst ys) :: nx := .tail _ (.tail _ (.tail _ (hK _ hz3 (n69l _ hz3 (by intro e; cases e)))))
    have hti : TIn (mtsOf ts ns) (pvM ts (dueU (semiAt ts) ts.length) ns) (nxM ts (dueU (semiAt ts) ts.length) ns) ((I, oI) :: (C, oC) :: (D, LCg.lst ys) :: nx) := fun j t e q hq => .tail _ (.tail _ (.tail _ (hK q (mts_tin (due_el hnm) hT j t e q hq) (n69l q (mts_tin (due_el hnm) hT j t e q hq) (tk_cls hq)))))
    have hz4 : (z.a, instObj 132 z.d) ∈ nx := hK _ (hz1 _ (by simp [Ln.led])) (n69l _ (hz1 _ (by simp [Ln.led])) (by intro e; cases e))
    have hz5 : (z.d, dictOf z.es z.cnt) ∈ nx := hK _ (hz1 _ (by simp [Ln.led])) (n69l _ (hz1 _ (by simp [Ln.led])) (by intro e; cases e))
    have hz6 := z.gC
    have hml8 : (mtsOf ts ns).length ≤ 8 := by
      rw [mts_len (due_el hnm)]; have := partsU_each (semiAt ts) ts.length ns (dueU_sub ns hnm); have := hn.out; omega
    have hml8' : Stop ((mtsOf ts ns).length ≤ 8) := ⟨hml8⟩
    clear hml8
    clear F N
    k_steps
    refine ⟨?_⟩
    refine ascode0_c _ _ _ _ _ _ _ _ _ _ _ _ _ _ _ _ _ _ _ _ kz z (mtsOf ts ns) (pvM ts (dueU (semiAt ts) ts.length) ns) (nxM ts (dueU (semiAt ts) ts.length) ns) _ _ B (by assumption) X N1 T hz1' hz3' hti ps1 (.tail _ (.tail _ (.tail _ hp1))) hps1 hml8'.out hg1 (by omega) (by omega) (by decide) (by decide) ?_
    intro s2 ps2 t2 hps2 F2 N2 hg2 hos2
    have off3 := off.mem
    have n1 := off3 _ hp1
    have N3 : News base L s2.heap ((I, oI) :: (C, oC) :: (D, LCg.lst ys) :: (69, tabO ps2) :: offs nx [69]) := fun q hq => N2 q (by
      rcases List.mem_cons.mp hq with rfl | hq
      · exact .tail _ (mem_offs (.head _) (fun e => n1.1 (List.mem_singleton.mp e).symm))
      rcases List.mem_cons.mp hq with rfl | hq
      · exact .tail _ (mem_offs (.tail _ (.head _)) (fun e => n1.2.1 (List.mem_singleton.mp e).symm))
      rcases List.mem_cons.mp hq with rfl | hq
      · exact .tail _ (mem_offs (.tail _ (.tail _ (.head _))) (fun e => n1.2.2 (List.mem_singleton.mp e).symm))
      rcases List.mem_cons.mp hq with rfl | hq
      · exact .head _
      · exact .tail _ (mem_offs (.tail _ (.tail _ (.tail _ (offs_sub hq)))) (fun e => offs_off _ _ q hq 69 (.head _) (List.mem_singleton.mp e))))
    have hK2 : ∀ q ∈ nx, q.1 ≠ 69 → q ∈ (69, tabO ps2) :: offs nx [69] := fun q hq h => .tail _ (mem_offs hq (fun e => h (List.mem_singleton.mp e)))
    refine hq _ s2 ((69, tabO ps2) :: offs nx [69]) ⟨hg2, hos2.trans hos1⟩ F2 N3 (LCg.Off3.of fun q hq => ?_) (hK2 _ hml (n69l _ hm (by intro e; cases e))) ⟨⟨ps2, .head _, hps2⟩, fun q hq h => hK2 q (hK q hq h) h, by simp [hyl], fun j y hy => ?_⟩
    · rcases List.mem_cons.mp hq with rfl | hq
      · exact n1
      · exact off3 q (offs_sub hq)
    · by_cases hj : j < ys.length
      · rw [List.getElem?_append_left hj] at hy; exact hys j y hy
      · have hj2 : j = ys.length := by
          have := (List.getElem?_eq_some_iff.mp hy).1
          simp at this; omega
        subst hj2
        simp at hy
        exact ⟨ns, t2, by rw [hyl]; exact hns, by rw [← hy, cdOf, hz2]⟩
  · rintro D ys nx s1 ⟨⟨ps1, hp1, hps1⟩, hK, hyl, hys⟩ ⟨hg1, hos1⟩ F1 N1 o1
    have hst := strs_told (f := cdOf ts dep) (l := dueU (semiAt ts) ts.length) (by rw [hyl, List.length_map, hll]) hys
    obtain ⟨kp, hpm⟩ := hP.mem
    have n69l : ∀ q ∈ news, q.2.cls ≠ Value.none → q.1 ≠ 69 := fun q hq hc => ne_of_cls N (a := q.1) (o := q.2) hq hP1 hc
    have hpm' := hK _ hpm (n69l _ hpm (by intro e; cases e))
    obtain ⟨c, hc⟩ : ∃ c, (partsU (semiAt ts) ts.length).getLast? = some c := ⟨_, List.getLast?_eq_some_getLast (fun e => by have := partsU_ne (semiAt ts) ts.length; rw [e] at this; simp at this)⟩
    have hal := hP.len
    obtain ⟨al, hla⟩ : ∃ al, as.getLast? = some al := ⟨_, List.getLast?_eq_some_getLast (fun e => by have := partsU_ne (semiAt ts) ts.length; rw [e] at hal; simp at hal; omega)⟩
    obtain ⟨us, ku, hum, hui⟩ := hP.each (as.length - 1) al c (by rw [← List.getLast?_eq_getElem?]; exact hla) (by rw [hal, ← List.getLast?_eq_getElem?]; exact hc)
    have hum' := hK _ hum (n69l _ hum (by intro e; cases e))
    have hul := hui.1
    have hxl : (as.map Value.ref).getLast? = some (.ref al) := by rw [List.getLast?_map, hla]; rfl
    have hc8 : c.length ≤ 1000 := by have := partsU_each (semiAt ts) ts.length c (List.mem_of_getLast? hc); have := hn.out; omega
    have hcodes := codes_eq (ts := ts) hd0 hd1
    have hall := codes_all (ts := ts) hc
    rw [hcodes] at hst
    have hdr : ∀ ns ∈ (partsU (semiAt ts) ts.length).dropLast, ns ≠ [] := fun ns h => hne ns (drop_due ns h)
    have hn0 : 0 < ts.length := by
      obtain ⟨t, ht, _⟩ := List.any_eq_true.mp hsemi
      exact List.length_pos_of_mem ht
    have hoD : OwnOff nx [D] := off_one o1
    have hys8 : ys.length ≤ 1000 := by rw [hyl, List.length_map, hll]; exact hdl
    rw [lst_eq rfl] at N1
    clear hys F N
    k_steps
    refine ⟨?_⟩
    refine wpAny_execs_cons ?_
    cases c with
    | nil =>
      have hul0 : us.length = 0 := hul
      k_steps
      with_reducible rename News base L _ _ => hN2
      rw [List.push_toArray] at hN2
      rw [if_pos rfl] at hall
      have hst2 : ∀ tz, StrsAre (ys ++ [Value.str (Str.ofString "") tz]) ((partsU (semiAt ts) ts.length).map fun ns => J1 (ns.map (fv ts))) := fun tz => hall ▸ strs_snoc hst (Str.ofString "") tz
      refine ⟨?_⟩
      refine join_list (isl_mem hN2 (.head _)) (hst2 _) (codes_sum hn.out) ?_
      intro t' tk'
      rw [txt_join]
      have hz1 : (Txt.mul (Str.ofString " ") (2 * dep)).length ≤ 1000 := by omega
      have hz2 : (Str.join (Str.ofString " ; ") ((partsU (semiAt ts) ts.length).map fun ns => J1 (ns.map (fv ts)))).length ≤ 1000 := Nat.le_trans (codes_len hn.out hdr) (by decide)
      k_steps
      refine ⟨?_⟩
      refine KXw.rstripChars (y := Txt.mul (Str.ofString " ") (2 * dep) ++ Txt.join (Str.ofString " ") (ts.map fun t => t.val)) ?_ (by rw [s_len]; exact Nat.le_trans (Nat.add_le_add hz1 hz2) (by decide)) ?_
      · rw [pure_law fv_semi (fv_ends hok) hn0 hdr, fv_row, txt_join]
      intro t2 tk2
      generalize hcode : Txt.mul (Str.ofString " ") (2 * dep) ++ Txt.join (Str.ofString " ") (ts.map fun t => t.val) = code0 at *
      k_steps
      rw [beq_self_eq_true]
      with_reducible rename News base L _ _ => hNz
      with_reducible rename Fr base L _ _ => hFz
      exact hend _ _ _ hFz hNz ⟨_, .tail _ hp1⟩ (fun q hq h => .tail _ (hK q hq h)) hg1 hos1
    | cons a0 r0 =>
      have hc0 : (((a0 :: r0).length : Int) == 0) = false := by rw [beq_eq_false_iff_ne, List.length_cons]; omega
      rw [if_neg (by simp), List.append_nil] at hall
      rw [hall] at hst
      k_steps
      with_reducible rename News base L _ _ => hN2
      refine ⟨?_⟩
      refine join_list (isl_mem hN2 (.head _)) hst (codes_sum hn.out) ?_
      intro t' tk'
      rw [txt_join]
      have hz1 : (Txt.mul (Str.ofString " ") (2 * dep)).length ≤ 1000 := by omega
      have hz2 : (Str.join (Str.ofString " ; ") ((partsU (semiAt ts) ts.length).map fun ns => J1 (ns.map (fv ts)))).length ≤ 1000 := Nat.le_trans (codes_len hn.out hdr) (by decide)
      k_steps
      refine ⟨?_⟩
      refine KXw.rstripChars (y := Txt.mul (Str.ofString " ") (2 * dep) ++ Txt.join (Str.ofString " ") (ts.map fun t => t.val)) ?_ (by rw [s_len]; exact Nat.le_trans (Nat.add_le_add hz1 hz2) (by decide)) ?_
      · rw [pure_law fv_semi (fv_ends hok) hn0 hdr, fv_row, txt_join]
      intro t2 tk2
      generalize hcode : Txt.mul (Str.ofString " ") (2 * dep) ++ Txt.join (Str.ofString " ") (ts.map fun t => t.val) = code0 at *
      k_steps
      rw [beq_self_eq_true]
      with_reducible rename News base L _ _ => hNz
      with_reducible rename Fr base L _ _ => hFz
      exact hend _ _ _ hFz hNz ⟨_, .tail _ hp1⟩ (fun q hq h => .tail _ (hK q hq h)) hg1 hos1
end Mine
end
section
open PySem PySem.W PyProof.Rows PySem.Spec PySem.Calls
namespace Mine
local macro_rules | `(tactic| k_room) => `(tactic| (simp only [depth_under_make, depth_under_kw, depth_in1, depth_deeper, depth_caller, ktrTop]; omega))
local macro_rules | `(tactic| k_mem) => `(tactic| first | assumption | (refine List.mem_append_left _ ?_; assumption))
local macro_rules | `(tactic| walk_at "call builtin:len") => `(tactic| (k_here; (with_reducible show wpAny _ _ (call (Value.builtin _) [Value.ref _]) _ _ _); k_dflt (refine' len_mem ?N ?h ?n ?z ?_; (case N => k_asm); (case h => k_mem); (case n => with_reducible assumption); (case z => omega))))
local macro_rules | `(tactic| walk_at "subscriptTail Name Name ref int") => `(tactic| (k_here; (with_reducible show wpAny _ _ (subscriptTail _ _ (Value.ref _) (Value.int _ _)) _ _ _); k_dflt (refine' item_mem ?N ?h ?z ?y ?x ?_ ?s ?g; (case N => k_asm); (case h => k_mem); (case z => omega); (case y => omega); (case x => assumption); (case s => with_unfolding_all rfl); (case g => (intro _; with_unfolding_all rfl)))))
local macro_rules | `(tactic| walk_at "subscriptTail Name BinOp ref int") => `(tactic| (k_here; (with_reducible show wpAny _ _ (subscriptTail _ _ (Value.ref _) (Value.int _ _)) _ _ _); k_dflt (refine' item_mem ?N ?h ?z ?y ?x ?_ ?s ?g; (case N => k_asm); (case h => k_mem); (case z => omega); (case y => omega); (case x => assumption); (case s => with_unfolding_all rfl); (case g => (intro _; with_unfolding_all rfl)))))
local macro_rules | `(tactic| walk_at "truthy ref") => `(tactic| (k_here; k_dflt (refine' truthy_mem ?N ?h ?n ?z ?b ?_; (case N => k_asm); (case h => k_mem); (case n => with_reducible assumption); (case z => omega); (case b => assumption))))
local macro_rules | `(tactic| walk_at "setAttr ref") => `(tactic| (k_here; (with_reducible show wpAny _ _ (setAttr (Value.ref _) (Str.ofString "previous_token") _) _ _ _); k_dflt (refine' set_prev ?F ?X ?N ?m ?U ?_; (case F => k_asm); (case X => k_asm); (case N => k_asm); (case m => k_mem); (case U => k_upd)); intro h' F' N'; (try k_sweep)))
local macro_rules | `(tactic| walk_at "setAttr ref") => `(tactic| (k_here; (with_reducible show wpAny _ _ (setAttr (Value.ref _) (Str.ofString "next_token") _) _ _ _); k_dflt (refine' set_next ?F ?X ?N ?m ?U ?_; (case F => k_asm); (case X => k_asm); (case N => k_asm); (case m => k_mem); (case U => k_upd)); intro h' F' N'; (try k_sweep)))
local macro_rules | `(tactic| walk_at "getAttr ref") => `(tactic| (k_here; k_dflt (refine' get_own ?k1 ?k2 ?k3 ?k4 ?k5 ?k6 ?k7 ?k8 ?k9 ?_; (case k1 => k_asm); (case k2 => k_asm); (case k3 => k_inst); (case k4 => k_is); (case k5 => k_is); (case k6 => k_is); (case k7 => k_is); (case k8 => assumption); (case k9 => k_handed); k_whole)))
local macro_rules | `(tactic| walk_at "call ref") => `(tactic| (k_here; k_dflt (first
  | (refine' call_cls ?k1 ?k2 ?k3 ?k4 ?k5 ?k6 ?_; (case k1 => k_asm); (case k2 => k_asm); (case k3 => k_asm); (case k4 => k_is); (case k5 => k_is); (case k6 => k_is); k_whole; intro x' d' h' F' N' l1 l2; (try k_lt l1); (try k_lt2 l2); (try k_sweep); k_enter)
  | (refine' call_meth ?k1 ?k2 ?_; (case k1 => k_asm); (case k2 => k_mem); k_whole; k_enter)
  | (refine wpAny_call ?_; k_enter))))

local macro_rules | `(tactic| walk_at "call ref") => `(tactic| (k_here; (with_reducible show wpAny _ _ (call (Value.ref 504) _) _ _ _); refine stop_here ?_))
local macro_rules | `(tactic| walk_at "call ref") => `(tactic| (k_here; (with_reducible show wpAny _ _ (call (Value.ref 329) _) _ _ _); refine stop_here ?_))
local macro_rules | `(tactic| walk_at "call ref") => `(tactic| (k_here; (with_reducible show wpAny _ _ (call (Value.ref 486) _) _ _ _); refine stop_here ?_))
local macro_rules | `(tactic| walk_at "call ref") => `(tactic| (k_here; (with_reducible show wpAny _ _ (call (Value.ref 132) _) _ _ _); refine stop_here ?_))
local macro_rules | `(tactic| walk_at "call ref") => `(tactic| (k_here; (with_reducible show wpAny _ _ (call (Value.ref 518) _) _ _ _); refine stop_here ?_))
local macro_rules | `(tactic| walk_at "call ref") => `(tactic| (k_here; (with_reducible show wpAny _ _ (call (Value.ref 74) _) _ _ _); refine stop_here ?_))
local macro_rules | `(tactic| walk_at "call ref") => `(tactic| (k_here; (with_reducible show wpAny _ _ (call (Value.ref 511) _) _ _ _); refine stop_here ?_))
local macro_rules | `(tactic| walk_at "call ref") => `(tactic| (k_here; (with_reducible show wpAny _ _ (call (Value.ref 525) _) _ _ _); refine stop_here ?_))
local macro_rules | `(tactic| walk_at "getAttr ref") => `(tactic| (k_here; (with_reducible show wpAny _ _ (getAttr (Value.ref _) (Str.ofString "has_semicolon") _) _ _ _); k_dflt (refine' get_prop ?k1 ?k2 ?k3 ?k4 ?k5 ?k6 ?k7 ?k8 ?k9 ?_; (case k1 => k_asm); (case k2 => k_asm); (case k3 => k_inst); (case k4 => k_is); (case k5 => k_is); (case k6 => k_is); (case k7 => k_is); (case k8 => k_is); (case k9 => k_is); k_whole; refine stop_here ?_)))
local macro_rules | `(tactic| walk_at "getMethod ref") => `(tactic| (k_here; k_dflt (refine' method_inst ?k1 ?k2 ?k3 ?k4 ?k5 ?k6 ?k7 ?_; (case k1 => k_asm); (case k2 => k_asm); (case k3 => k_inst); (case k4 => k_is); (case k5 => k_is); (case k6 => k_is); (case k7 => assumption); k_whole)))
theorem fillL {w : World} {h₀ : Heap} (X : (hd.heap_39 w.params).In h₀) : (hd.heap_39 w.params).In h₀ ∧ PySem.Challenge.rw_bu5043_01 = PySem.Challenge.rw_bu5043_01 := by
  k_fill
  exact ⟨X, rfl⟩
theorem law_enter {prog : Program} {w : World} {A : Around} {R : Result → Shared → Prop} {s : Shared} {base : Heap} {K : Frag} {p : Program} {loose : List Str} {mean : ExcName → Option Value} {mg mb : Str → Option Value} {name : Str} {params : Arguments} {body : List Stmt} {scope : Scope}
    {pm cd doc : Value} {f : Addr} {oc : Value} {od : Option Addr} {osl : Array (Option Value)} {fd : FuncData} {args : List Value} {binds : List (Str × Value)} {led : Led}
    (hroom : A.depth < recursionLimit) (hb : base.StaysIn s.heap) (hsz : base.objs.size = s.heap.objs.size) (X : K.In base) (T : Top p loose mean mg mb base) (hA : A.frames = some []) (hled : ∀ q ∈ led, s.heap.get? q.1 = some q.2 ∧ base.get? q.1 = none)
    (ho : K.lookup f = some ⟨oc, od, .func fd, osl⟩) (hfd : fd = Calls.docDef name params body scope pm cd doc) (hcd : codeIn K cd name = true)
    (hbind : bindArgs (Calls.docDef name params body scope pm cd doc) ⟨args, []⟩ = pure binds)
    (hkind : ∀ x ∈ binds, scope.names.lookup x.1 = some .local ∨ (scope.names.lookup x.1 = some .cell ∧ ((cellsFrom (s.heap.objs.size + 1) scope.names []).lookup x.1).isSome = true))
    (hnd : ((cellsFrom 0 scope.names []).map (·.1)).Nodup)
    (h : ∀ L h₁ tk cells, Fr base L h₁ (bindL (envOfC name scope L f cd).kindOf binds fun _ => none) → News base L h₁ (cells ++ led) →
      CellsAre (bindC (envOfC name scope L f cd).kindOf binds fun _ => none) (cellsFrom (L + 1) scope.names []) cells → Below callerA base [] base → (∀ q ∈ led, @LT.lt Nat _ q.1 L) → 
      wpAny (model prog w) (A.deeper (envOfC name scope L f cd)) (execs body (envOfC name scope L f cd))
        (fun f s' => R (.ok (.ret (match f with | .ret v => v | _ => .none))) s')
        (fun e s' => wpAny (model prog w) (A.deeper (envOfC name scope L f cd)) («leaving» (envOfC name scope L f cd) e)
          (fun _ s'' => R (.error e) s'') (fun e' s'' => R (.error e') s'') s')
        { s with heap := h₁, toks := tk })
    (hco : scope.isCoroutine = false) (hgen : scope.isGenerator = false) (hk : scope.kind = .function) :
    codeAny (model prog w) A (.call (.ref f) ⟨args, []⟩) R s := by
  subst hfd
  refine call_cellsN hroom (hb _ _ (X _ _ ho)) rfl (T.nolimit.keeps hb) ((codeRec_of X hcd).keeps hb) hbind hkind hnd (fun h₁ tk cells F N Y => ?_) hco hgen hk
  refine h _ h₁ tk cells ⟨F.ns, fun b o e => F.keep b o (hb b o e), by rw [hsz]; exact Nat.le_refl _⟩ (fun q hq => ?_) Y (below_caller base) (fun q hq => Heap.lt_size (hled q hq).1)
  rcases List.mem_append.mp hq with hq | hq
  · obtain ⟨a, b, c⟩ := N q hq
    refine ⟨a, b, ?_⟩
    cases hz : base.get? q.1 with
    | none => rfl
    | some o => rw [hb _ _ hz] at c; cases c
  · obtain ⟨a, b⟩ := hled q hq
    exact ⟨F.keep _ _ a, Nat.ne_of_lt (Heap.lt_size a), b⟩

structure BuildS (P : Params) where
  ts : List (Tk P)
  c : Int
  tc : Tok
  k1 : Nat
  kt : Nat
structure BuildP {P : Params} (st lD tl : Addr) (oD : Obj) (R0 : Led) (i : Nat) (σ : BuildS P) (nx : Led) : Prop where
  s1 : (st, W.listOf #[Value.ref lD, Value.int σ.c σ.tc] σ.k1) ∈ nx
  s2 : (lD, oD) ∈ nx
  c0 : 0 ≤ σ.c
  c1 : σ.c ≤ 4 * i + 2
  l1 : (tl, W.listOf (σ.ts.map fun t => Value.ref t.a).toArray σ.kt) ∈ nx
  len : σ.ts.length = i
  tin : TIn σ.ts (fun _ => .none) (fun _ => .none) nx
  sep : Sep σ.ts
  ok : ∀ t ∈ σ.ts, okV t.val
  rest : ∀ q ∈ R0, q ∈ nx
theorem names_ws {h₀ h : Heap} {L a b : Addr} {o : Obj} {ws : List Value} {k : Nat} {rest : Led} (N : News h₀ L h ((a, o) :: (b, W.listOf ws.toArray k) :: rest)) : ∃ w, w = ws := ⟨_, rfl⟩
theorem names_tok {h₀ h : Heap} {L a1 a2 a3 a4 a5 a6 a7 : Addr} {o1 o2 o3 o4 o5 o6 o7 : Obj} {rest : Led} (N : News h₀ L h ((a1,o1)::(a2,o2)::(a3,o3)::(a4,o4)::(a5,o5)::(a6,o6)::(a7,o7)::rest)) : ∃ tl o, tl = a1 ∧ o = o7 := ⟨_, _, rfl, rfl⟩
theorem swap_tok {h₀ h : Heap} {L : Addr} {a b c : Addr × Obj} {rest : Led} (N : News h₀ L h (a :: b :: c :: rest)) : News h₀ L h (b :: c :: a :: rest) := fun q hq => N q (by
  simp only [List.mem_cons] at hq ⊢
  rcases hq with h | h | h | h
  · exact .inr (.inl h)
  · exact .inr (.inr (.inl h))
  · exact .inl h
  · exact .inr (.inr (.inr h)))
theorem TIn.noncell {P : Params} {ts : List (Tk P)} {pv nx : Nat → Value} {led led' : Led} (h : TIn ts pv nx led) (h3 : ∀ q ∈ led, (∀ v, q.2.data ≠ .cell v) → q ∈ led') : TIn ts pv nx led' := fun i t hi q hq => h3 q (h i t hi q hq) (tk_data hq)
theorem LinesIn.noncell {P : Params} {nx led' : Led} {ts : List (Tk P)} {dep : Int} {pl : Addr} {ls : List (Ln P)} {pp : List (List Nat)} (H : LinesIn nx ts dep pl ls pp) (h3 : ∀ q ∈ nx, (∀ v, q.2.data ≠ .cell v) → q ∈ led') : LinesIn led' ts dep pl ls pp :=
  ⟨H.len, fun j x ns h1 h2 => have ⟨a, b, k, c⟩ := H.each j x ns h1 h2; ⟨fun q hq => h3 q (a q hq) (ln_data hq), b, k, h3 _ c (by intro v e; cases e)⟩, H.nodup, H.offd⟩
theorem PartsIn.noncell {led led' : Led} {pl : Addr} {as : List Addr} {pp : List (List Nat)} (H : PartsIn led pl as pp) (h : ∀ q ∈ led, (∀ v, q.2.data ≠ .cell v) → q ∈ led') : PartsIn led' pl as pp :=
  ⟨let ⟨k, hm⟩ := H.mem; ⟨k, h _ hm (by intro v e; cases e)⟩, H.len, fun j a ns h1 h2 => let ⟨vs, k, hm, hi⟩ := H.each j a ns h1 h2; ⟨vs, k, h _ hm (by intro v e; cases e), hi⟩, H.nodup⟩
theorem fr_if {h₀ h : Heap} {L : Addr} {m : Str → Option Value} {x : Str} {v : Value} (F : Fr h₀ L h m) (e : m x = some v) : Fr h₀ L h (fun y => if y = x then some v else m y) :=
  fr_congr F fun y => by
    by_cases h : y = x
    · rw [if_pos h, h, e]
    · rw [if_neg h]
theorem tk_nolist {P : Params} {t : Tk P} {p n : Value} {q : Addr × Obj} (h : q ∈ t.led p n) : q.2.cls ≠ .type "list" := by
  simp only [Tk.led, List.mem_cons, List.not_mem_nil, or_false] at h
  rcases h with rfl | rfl | rfl | rfl
  · intro e; cases e
  · intro e; have e2 : Value.type "dict" = Value.type "list" := e; exact absurd (Value.type.inj e2) (by decide)
  · intro e; cases e
  · intro e; have e2 : Value.type "dict" = Value.type "list" := e; exact absurd (Value.type.inj e2) (by decide)
theorem law_c {w : World} {p : Program} {loose : List Str} {mean : ExcName → Option Value} {mg mb : Str → Option Value} (s : Shared) (la : Addr) (vs : List Value) (ns : List Int) (base : Heap) (R : Result → Shared → Prop)
    (hb : base.StaysIn s.heap) (hsz : base.objs.size = s.heap.objs.size) (X : (hd.heap_39 w.params).In base) (T : Top p loose mean mg mb base)
    (h69 : s.heap.get? 69 = some (tabO #[])) (b69 : base.get? 69 = none) (h123 : s.heap.get? 123 = some (tabO #[])) (b123 : base.get? 123 = none)
    (hL : base.IsList la vs.toArray) (hI : IntsAre vs ns) (hns : ns.length ≤ 63) (hg : AllBare s.gens)
    (hret : ∀ s' led L m, Fr base L s'.heap m → News base L s'.heap led → (∃ p1, (69, tabO p1) ∈ led) → (∃ p2, (123, tabO p2) ∈ led) → AllBare s'.gens → s'.os = s.os → R (.ok (.ret (.bool true))) s') :
    codeAny (model pr w) callerA (.call (.ref 530) ⟨[.ref la], []⟩) R s := by
  k_with_none
  w_top off
  refine' law_enter (led := [(69, tabO #[]), (123, tabO #[])]) ?k0 hb hsz X T rfl ?kl ?k6 ?kd ?k7 ?k9 ?kk ?kn ?_ ?c1 ?c2 ?c3
  case k0 => decide
  case kl =>
    intro q hq
    simp only [List.mem_cons, List.not_mem_nil, or_false] at hq
    rcases hq with rfl | rfl
    · exact ⟨h69, b69⟩
    · exact ⟨h123, b123⟩
  case k6 => k_is
  case kd => rfl
  case k7 => k_is
  case k9 => rfl
  case kk => exact kinds_of (by kinds_ok)
  case kn => decide
  case c1 => rfl
  case c2 => rfl
  case c3 => rfl
  intro L h₁ tk cells F N Y B hlt
  obtain ⟨oM, oP, oL, oT, he, d1, d2, d3, d4⟩ := CellsAre.four Y
  subst he
  clear Y
  have h69L : @LT.lt Nat _ 69 L := hlt (69, tabO #[]) (by simp)
  have h123L : @LT.lt Nat _ 123 L := hlt (123, tabO #[]) (by simp)
  change oM.data = .cell none at d1
  change oP.data = .cell none at d2
  change oL.data = .cell none at d3
  change oT.data = .cell none at d4
  simp only [List.cons_append, List.nil_append] at N
  k_with "pyIter ref" => refine stop_here ?_
  k_steps
  refine ⟨?_⟩
  with_reducible rename News _ _ _ _ => hN
  obtain ⟨st, lD, rfl, rfl⟩ := names2 hN
  obtain ⟨ws, rfl⟩ := names_ws hN
  have ho1 : OwnOff [(L + 1 + 1 + 1 + 1, oM), (L + 1 + 1 + 1, oP), (L + 1 + 1, oL), (L + 1, oT), (69, tabO #[]), (123, tabO #[])] [st] := by
    intro p hp b hb e
    rw [List.mem_singleton.mp hb] at e
    simp only [List.mem_cons, List.not_mem_nil, or_false] at hp
    rcases hp with rfl | rfl | rfl | rfl | rfl | rfl <;> (have e : @Eq Nat _ st := e; dsimp only at e; omega)
  have hst : @LT.lt Nat _ lD st := by omega
  refine next_c _ _ _ _ _ _ _ _ _ _ _ _ _ _ _ _ _ _ _ _ _ _ _ _ _ _ _ _ B (by assumption) X hN T rfl (by assumption) (by decide) (by decide) (by decide) (by decide) (by rw [List.length_take]; omega) hst ho1 (by decide) (by decide) ?_
  intro dep dt tc1 k1 h2 tk2 hd0 hd1 F2 N2
  k_steps
  refine ⟨?_⟩
  with_reducible rename News _ _ _ _ => hN3
  obtain ⟨tl, oT2, rfl, rfl⟩ := names_tok hN3
  have dT2 : oT2.data = .cell (some (.ref tl)) := by assumption
  have hN4 := swap_tok hN3
  have htl : @LT.lt Nat _ st tl := by omega
  have ho2 : OwnOff [(tl, W.listOf #[] 0), (L + 1 + 1 + 1 + 1, oM), (L + 1 + 1 + 1, oP), (L + 1 + 1, oL), (L + 1, oT2), (69, tabO #[]), (123, tabO #[])] [st] := by
    intro p hp b hb e
    rw [List.mem_singleton.mp hb] at e
    simp only [List.mem_cons, List.not_mem_nil, or_false] at hp
    rcases hp with rfl | rfl | rfl | rfl | rfl | rfl | rfl <;> (have e : @Eq Nat _ st := e; dsimp only at e; omega)
  refine next_c _ _ _ _ _ _ _ _ _ _ _ _ _ _ _ _ _ _ _ _ _ _ _ _ _ _ _ _ B (by assumption) X hN4 T rfl (by assumption) (by decide) (by decide) (by decide) (by decide) (by rw [List.length_take]; omega) hst ho2 (by decide) (by decide) ?_
  intro r rt tc2 k2 h3 tk3 hr0 hr1 F3 N3
  obtain ⟨n, rfl⟩ : ∃ n : Nat, r = (n : Int) := ⟨r.toNat, by omega⟩
  have hr8 : Stop (n ≤ 8) := ⟨by omega⟩
  have hn1 : n ≤ 1000 := by omega
  clear hr1 hr0
  k_steps
  refine ⟨?_⟩
  with_reducible rename IsRange _ _ _ _ _ _ _ _ => hR
  with_reducible rename Fr _ _ _ _ => hF
  with_reducible rename News _ _ _ _ => hN
  have hltD : ∀ q ∈ [(L + 1 + 1 + 1 + 1, oM), (L + 1 + 1 + 1, oP), (L + 1 + 1, oL), (L + 1, oT2), (69, tabO #[]), (123, tabO #[])], @LT.lt Nat _ q.1 lD := by
    intro p hp
    simp only [List.mem_cons, List.not_mem_nil, or_false] at hp
    rcases hp with rfl | rfl | rfl | rfl | rfl | rfl <;> (dsimp only; omega)
  generalize hR0 : [(L + 1 + 1 + 1 + 1, oM), (L + 1 + 1 + 1, oP), (L + 1 + 1, oL), (L + 1, oT2), (69, tabO #[]), (123, tabO #[])] = R0 at *
  have hi60 : (ns.take 60).length ≤ 100 := by rw [List.length_take]; omega
  have hcT0 : (L + 1, oT2) ∈ R0 := by rw [← hR0]; simp
  refine rg_loop (σ := BuildS w.params) (fun _ => []) [Str.ofString "value", Str.ofString "kind", Str.ofString "spot"] (fun i σ nx => BuildP st lD tl (W.listOf ws.toArray 0) R0 i σ nx) ⟨[], 2, tc2, k2, 0⟩ rfl hR hn1 hF hN (fun _ h => nomatch h) ?_ ?_ ?_
  · exact ⟨.head _, .tail _ (.head _), by show (0 : Int) ≤ 2; decide, by show (2 : Int) ≤ 4 * ((0 : Nat) : Int) + 2; decide, .tail _ (.tail _ (.head _)), rfl, fun i t h => by simp at h, fun i j t u _ h => by simp at h, fun t h => by simp at h, fun q hq => .tail _ (.tail _ (.tail _ hq))⟩
  · rintro i σ tk₀ u nx h tk own hi hoff hP F₁ N₁
    obtain ⟨σts, σc, σtc, σk, σkt⟩ := σ
    obtain ⟨q1, q2, q3, q4, q5, q6, q7, q8, q9, q10⟩ := hP
    dsimp only at q1 q2 q3 q4 q5 q6 q7 q8 q9 q10
    have hi8 := hr8.out
    have hltR : ∀ q ∈ R0, q.1 ≠ st ∧ q.1 ≠ tl := fun q hq => ⟨Nat.ne_of_lt (Nat.lt_trans (hltD q hq) hst), Nat.ne_of_lt (Nat.lt_trans (hltD q hq) (Nat.lt_trans hst htl))⟩
    have hlD : lD ≠ st ∧ lD ≠ tl := ⟨Nat.ne_of_lt hst, Nat.ne_of_lt (Nat.lt_trans hst htl)⟩
    have hoS : OwnOff ((L + 1, oT2) :: offs (nx ++ own) [st, tl]) [st] := fun q hq b hb => by
      rw [List.mem_singleton.mp hb]
      rcases List.mem_cons.mp hq with rfl | hq
      · exact (hltR _ hcT0).1
      · exact offs_off _ _ q hq st (.head _)
    have hoT : OwnOff ((L + 1, oT2) :: offs (nx ++ own) [st, tl]) [tl] := fun q hq b hb => by
      rw [List.mem_singleton.mp hb]
      rcases List.mem_cons.mp hq with rfl | hq
      · exact (hltR _ hcT0).2
      · exact offs_off _ _ q hq tl (.tail _ (.head _))
    have N₂ : News base L h ((st, W.listOf #[.ref lD, .int σc σtc] σk) :: (lD, W.listOf ws.toArray 0) :: (tl, W.listOf (σts.map fun t => Value.ref t.a).toArray σkt) :: (L + 1, oT2) :: offs (nx ++ own) [st, tl]) := fun q hq => N₁ q (by
      rcases List.mem_cons.mp hq with rfl | hq
      · exact List.mem_append_left _ q1
      rcases List.mem_cons.mp hq with rfl | hq
      · exact List.mem_append_left _ q2
      rcases List.mem_cons.mp hq with rfl | hq
      · exact List.mem_append_left _ q5
      rcases List.mem_cons.mp hq with rfl | hq
      · exact List.mem_append_left _ (q10 _ hcT0)
      · exact offs_sub hq)
    have hN1 : News base L h nx := fun q hq => N₁ q (List.mem_append_left _ hq)
    have hnl : ∀ q ∈ nx, q.2.cls ≠ .type "list" → q.1 ≠ st ∧ q.1 ≠ tl := fun q hq hc => ⟨ne_of_cls hN1 (a := q.1) (o := q.2) hq q1 hc, ne_of_cls hN1 (a := q.1) (o := q.2) hq q5 hc⟩
    have hof : ∀ q ∈ nx, q.1 ≠ st ∧ q.1 ≠ tl → q ∈ offs nx [st, tl] := fun q hq hc => mem_offs hq fun e => by
      rcases List.mem_cons.mp e with e | e
      · exact hc.1 e
      · exact hc.2 (List.mem_singleton.mp e)
    have hofA : ∀ q ∈ offs nx [st, tl], q ∈ offs (nx ++ own) [st, tl] := fun q hq => by
      unfold offs at *
      rw [List.filter_append]
      exact List.mem_append_left _ hq
    have hoff' : ∀ p ∈ own, ∀ q ∈ nx, p.1 ≠ q.1 := fun p hp q hq => hoff p hp q.1 (List.mem_map.mpr ⟨q, hq, rfl⟩)
    have hown : ∀ p ∈ own, p ∈ offs (nx ++ own) [st, tl] := fun p hp => mem_offs (List.mem_append_right _ hp) fun e => by
      rcases List.mem_cons.mp e with e | e
      · exact hoff' p hp _ q1 e
      · exact hoff' p hp _ q5 (List.mem_singleton.mp e)
    refine turn_c base L _ _ (L + 1) _ _ _ oT2 _ _ _ _ st lD tl ws (σts.map fun t => Value.ref t.a) _ σc σtc σk 0 σkt (offs (nx ++ own) [st, tl]) B (fr_if (x := Str.ofString "state") (v := .ref st) F₁ rfl) X T N₂ dT2 (by assumption) hi60 q3 (by omega) (by rw [List.length_map]; omega) hst htl hoS hoT ?_
    intro t tc' k1' kt' h' tk' m' hokv hlt' F' hm' N'
    have hlt2 := tb_ltOf hlt'
    have o1 := t.o1
    have o2 := t.o2
    have o3 := t.o3
    have htk : ∀ q ∈ t.led .none .none, t.lfd ≤ q.1 := fun q hq => by
      rcases Tk.led_addr hq with e | e | e | e <;> rw [e]
      · exact Nat.le_of_lt (Nat.lt_trans o1 (Nat.lt_trans o2 o3))
      · exact Nat.le_of_lt (Nat.lt_trans o1 o2)
      · exact Nat.le_of_lt o1
      · exact Nat.le_refl _
    refine InvEndG.intro (nx := (tl, W.listOf ((σts.map fun t => Value.ref t.a) ++ [Value.ref t.a]).toArray kt') :: (st, W.listOf #[.ref lD, .int (σc + 1 + 1 + 1) tc'] k1') :: (t.led .none .none ++ offs nx [st, tl])) F' N' ⟨⟨σts ++ [t], σc + 1 + 1 + 1, tc', k1', kt'⟩, ⟨.tail _ (.head _), ?_, ?_, ?_, ?_, ?_, ?_, ?_, ?_, ?_⟩, (fun _ h => nomatch h), ?_⟩ ?_ ?_ ?_
    · exact .tail _ (.tail _ (List.mem_append_right _ (hof _ q2 hlD)))
    · show 0 ≤ σc + 1 + 1 + 1
      omega
    · show σc + 1 + 1 + 1 ≤ 4 * ((i + 1 : Nat) : Int) + 2
      omega
    · show (tl, W.listOf ((σts ++ [t]).map fun t => Value.ref t.a).toArray kt') ∈ _
      rw [List.map_append]; exact .head _
    · show (σts ++ [t]).length = i + 1
      rw [List.length_append, q6]; rfl
    · intro j t1 hj q hq
      replace hj : (σts ++ [t])[j]? = some t1 := hj
      by_cases hjl : j < σts.length
      · rw [List.getElem?_append_left hjl] at hj
        exact .tail _ (.tail _ (List.mem_append_right _ (hof q (q7 j t1 hj q hq) (hnl q (q7 j t1 hj q hq) (tk_nolist hq)))))
      · have hj2 : j = σts.length := by
          have := (List.getElem?_eq_some_iff.mp hj).1
          simp at this; omega
        subst hj2
        simp at hj
        subst hj
        exact .tail _ (.tail _ (List.mem_append_left _ hq))
    · intro j1 j2 t1 t2 hlt3 hj1 hj2
      replace hj1 : (σts ++ [t])[j1]? = some t1 := hj1
      replace hj2 : (σts ++ [t])[j2]? = some t2 := hj2
      have hl2 := (List.getElem?_eq_some_iff.mp hj2).1
      rw [List.length_append, List.length_singleton] at hl2
      rw [List.getElem?_append_left (by omega)] at hj1
      by_cases hjl : j2 < σts.length
      · rw [List.getElem?_append_left hjl] at hj2
        exact q8 j1 j2 t1 t2 hlt3 hj1 hj2
      · have hj3 : j2 = σts.length := by omega
        subst hj3
        simp at hj2
        subst hj2
        have hm1 : (t1.a, instObj 486 t1.d) ∈ nx := q7 j1 t1 hj1 _ (by simp [Tk.led])
        exact hlt2 (t1.a, instObj 486 t1.d) (.tail _ (.tail _ (.tail _ (.tail _ (hofA _ (hof _ hm1 (hnl _ hm1 (by intro e; cases e))))))))
    · intro t1 ht1
      rcases List.mem_append.mp ht1 with h1 | h1
      · exact q9 t1 h1
      · rw [List.mem_singleton.mp h1]; exact hokv
    · intro q hq
      exact .tail _ (.tail _ (List.mem_append_right _ (hof q (q10 q hq) (hltR q hq))))
    · intro z h1 _ h3
      have hz : ∀ y ∈ ([Str.ofString "value", Str.ofString "kind", Str.ofString "spot"] : List Str), z ≠ y := fun y hy e => by
        rw [Bool.eq_false_iff] at h3
        exact h3 (List.contains_iff_mem.mpr (e ▸ hy))
      rw [hm' z (hz _ (.head _)) (hz _ (.tail _ (.head _))) (hz _ (.tail _ (.tail _ (.head _))))]
      by_cases hs : z = Str.ofString "state"
      · rw [if_pos hs, hs]; rfl
      · rw [if_neg hs]
        show (if z = Str.ofString "turn" then _ else if _ then _ else _) = _
        rw [if_neg h1, if_neg (by rw [h3]; decide)]
    · intro p hp b hb
      obtain ⟨q, hq, rfl⟩ := List.mem_map.mp hb
      rcases List.mem_cons.mp hq with rfl | hq
      · exact (hoff' p hp _ q5 : p.1 ≠ tl)
      rcases List.mem_cons.mp hq with rfl | hq
      · exact (hoff' p hp _ q1 : p.1 ≠ st)
      rcases List.mem_append.mp hq with hq | hq
      · have h1 : @LT.lt Nat _ p.1 t.lfd := hlt2 p (.tail _ (.tail _ (.tail _ (.tail _ (hown p hp)))))
        exact Nat.ne_of_lt (Nat.lt_of_lt_of_le h1 (htk q hq))
      · exact hoff' p hp q (offs_sub hq)
    · intro p hp
      rcases List.mem_cons.mp hp with rfl | hp
      · exact .head _
      rcases List.mem_cons.mp hp with rfl | hp
      · exact .tail _ (.tail _ (.head _))
      · refine .tail _ (.tail _ (.tail _ (.tail _ ?_)))
        rcases List.mem_append.mp hp with hp | hp
        · exact List.mem_append_left _ hp
        · exact List.mem_append_right _ (hofA p hp)
    · intro p hp
      exact .tail _ (.tail _ (.tail _ (.tail _ (List.mem_append_right _ (hown p hp)))))
  · rintro σ u nx h tk hP F₁ N₁
    obtain ⟨ts, σc, σtc, σk, kt⟩ := σ
    obtain ⟨q1, q2, q3, q4, q5, q6, q7, q8, q9, q10⟩ := hP
    dsimp only at q1 q2 q3 q4 q5 q6 q7 q8 q9 q10
    have hts8 : Stop (ts.length ≤ 8) := ⟨by have := hr8.out; omega⟩
    have N0 : News base L h nx := N₁
    have mT : (L + 1, oT2) ∈ nx := q10 _ hcT0
    have mL : (L + 1 + 1, oL) ∈ nx := q10 _ (by rw [← hR0]; simp)
    have mP : (L + 1 + 1 + 1, oP) ∈ nx := q10 _ (by rw [← hR0]; simp)
    have mM : (L + 1 + 1 + 1 + 1, oM) ∈ nx := q10 _ (by rw [← hR0]; simp)
    have m69 : (69, tabO #[]) ∈ nx := q10 _ (by rw [← hR0]; simp)
    have m123 : (123, tabO #[]) ∈ nx := q10 _ (by rw [← hR0]; simp)
    have hdt : ∀ t ∈ ts, ∃ es c, (t.d, dictOf es c) ∈ nx := fun t ht => by
      obtain ⟨i, hi⟩ := List.mem_iff_getElem?.mp ht
      exact ⟨_, _, q7 i t hi (t.d, dictOf (t.es .none .none) t.cnt) (by simp [Tk.led])⟩
    have nd : ∀ q : Addr × Obj, q ∈ nx → (∀ es ep, q.2.data ≠ .dict es ep) → ∀ t ∈ ts, q.1 ≠ t.d := fun q hq hd t ht => by
      obtain ⟨es, c, hm⟩ := hdt t ht
      exact ne_of_obj N0 (a := q.1) (o := q.2) hq hm (hd _ _)
    have NA : News base L h ((L + 1 + 1, oL) :: offs nx [L + 1 + 1]) := focus0 N0 mL
    have cA : ∀ q ∈ nx, q.1 ≠ L + 1 + 1 → q ∈ offs nx [L + 1 + 1] := fun q hq hc => mem_offs hq fun e => hc (List.mem_singleton.mp e)
    have cA2 : ∀ q ∈ nx, (∀ v, q.2.data ≠ .cell v) → q ∈ offs nx [L + 1 + 1] := fun q hq hc => mem_foc N0 mL hq (cell_ne d3 hc)
    have e1 : @Ne Nat (L + 1) (L + 1 + 1) := by omega
    have e2 : @Ne Nat (L + 1 + 1 + 1) (L + 1 + 1) := by omega
    have e3 : @Ne Nat (L + 1 + 1 + 1 + 1) (L + 1 + 1) := by omega
    refine segA_c base L _ _ (L + 1) (L + 1 + 1) (L + 1 + 1 + 1) (L + 1 + 1 + 1 + 1) tl oT2 oL kt _ _ _ _ dep dt ts (offs nx [L + 1 + 1]) [(L + 1, oT2), (tl, W.listOf (ts.map fun t => Value.ref t.a).toArray kt), (L + 1 + 1 + 1, oP), (L + 1 + 1 + 1 + 1, oM), (69, tabO #[]), (123, tabO #[])] B X T (fr_if (x := Str.ofString "depth") (v := .int dep dt) F₁ rfl) NA d3 (offs_off _ _) dT2 hd0 (by omega) (q7.noncell cA2) q8 hts8 ?_ ?_ (by simp) (by simp) ?_
    · intro q hq
      simp only [List.mem_cons, List.not_mem_nil, or_false] at hq
      rcases hq with rfl | rfl | rfl | rfl | rfl | rfl
      · exact cA _ mT e1
      · exact cA2 _ q5 (by intro v e; cases e)
      · exact cA _ mP e2
      · exact cA _ mM e3
      · exact cA2 _ m69 (by intro v e; cases e)
      · exact cA2 _ m123 (by intro v e; cases e)
    · intro q hq t ht
      simp only [List.mem_cons, List.not_mem_nil, or_false] at hq
      rcases hq with rfl | rfl | rfl | rfl | rfl | rfl
      · exact nd _ mT (by rw [dT2]; intro _ _ e; cases e) t ht
      · exact nd _ q5 (by intro _ _ e; cases e) t ht
      · exact nd _ mP (by rw [d2]; intro _ _ e; cases e) t ht
      · exact nd _ mM (by rw [d1]; intro _ _ e; cases e) t ht
      · exact nd _ m69 (by intro _ _ e; cases e) t ht
      · exact nd _ m123 (by intro _ _ e; cases e) t ht
    intro x rl kr kl oL1 tc hA tkA nxA hxd dL1 FA NA1 hoA htiA hRA hxA hxoA hxlA hrlA
    have aT := hRA (L + 1, oT2) (by simp)
    have aP := hRA (L + 1 + 1 + 1, oP) (by simp)
    have aM := hRA (L + 1 + 1 + 1 + 1, oM) (by simp)
    have a69 := hRA (69, tabO #[]) (by simp)
    have a123 := hRA (123, tabO #[]) (by simp)
    have aTl := hRA (tl, W.listOf (ts.map fun t => Value.ref t.a).toArray kt) (by simp)
    have hdtA : ∀ t ∈ ts, ∃ es c, (t.d, dictOf es c) ∈ nxA := fun t ht => by
      obtain ⟨i, hi⟩ := List.mem_iff_getElem?.mp ht
      exact ⟨_, _, htiA i t hi (t.d, dictOf (t.es (pv0 ts i) (nx0 ts i)) t.cnt) (by simp [Tk.led])⟩
    have ndA : ∀ q : Addr × Obj, q ∈ (L + 1 + 1, oL1) :: nxA → (∀ es ep, q.2.data ≠ .dict es ep) → ∀ t ∈ ts, q.1 ≠ t.d := fun q hq hd t ht => by
      obtain ⟨es, c, hm⟩ := hdtA t ht
      exact ne_of_obj NA1 (a := q.1) (o := q.2) hq (.tail _ hm) (hd _ _)
    have ntA : ∀ q : Addr × Obj, q ∈ (L + 1 + 1, oL1) :: nxA → (∀ vs, q.2.data ≠ .fields vs) → q.1 ≠ 69 ∧ q.1 ≠ 123 := fun q hq hd =>
      ⟨ne_of_obj NA1 (a := q.1) (o := q.2) hq (.tail _ a69) (hd _), ne_of_obj NA1 (a := q.1) (o := q.2) hq (.tail _ a123) (hd _)⟩
    refine segB_c base L _ _ (L + 1) (L + 1 + 1) (L + 1 + 1 + 1) (L + 1 + 1 + 1 + 1) tl rl oT2 oL1 kt kl kr _ _ _ _ dep dt tc ts x ((L + 1 + 1, oL1) :: nxA) [(L + 1, oT2), (tl, W.listOf (ts.map fun t => Value.ref t.a).toArray kt), (L + 1 + 1 + 1, oP), (L + 1 + 1 + 1 + 1, oM), (L + 1 + 1, oL1)] #[] #[] B X T hg FA NA1 dL1 hxd dT2 hd0 (by omega) (htiA.mono fun q hq => .tail _ hq) q8 hts8 (.tail _ a69) (.inl rfl) (.tail _ a123) (.inl rfl) (fun q hq => .tail _ (hxA q hq)) (.tail _ hxlA) (.tail _ hrlA) ?_ ?_ (by simp) (by simp) (by simp) hxoA ?_
    · intro q hq
      simp only [List.mem_cons, List.not_mem_nil, or_false] at hq
      rcases hq with rfl | rfl | rfl | rfl | rfl
      · exact ⟨.tail _ aT, ntA _ (.tail _ aT) (by rw [dT2]; intro _ e; cases e)⟩
      · exact ⟨.tail _ aTl, ntA _ (.tail _ aTl) (by intro _ e; cases e)⟩
      · exact ⟨.tail _ aP, ntA _ (.tail _ aP) (by rw [d2]; intro _ e; cases e)⟩
      · exact ⟨.tail _ aM, ntA _ (.tail _ aM) (by rw [d1]; intro _ e; cases e)⟩
      · exact ⟨.head _, ntA _ (.head _) (by rw [dL1]; intro _ e; cases e)⟩
    · intro q hq t ht
      simp only [List.mem_cons, List.not_mem_nil, or_false] at hq
      rcases hq with rfl | rfl | rfl | rfl | rfl
      · exact ndA _ (.tail _ aT) (by rw [dT2]; intro _ _ e; cases e) t ht
      · exact ndA _ (.tail _ aTl) (by intro _ _ e; cases e) t ht
      · exact ndA _ (.tail _ aP) (by rw [d2]; intro _ _ e; cases e) t ht
      · exact ndA _ (.tail _ aM) (by rw [d1]; intro _ _ e; cases e) t ht
      · exact ndA _ (.head _) (by rw [dL1]; intro _ _ e; cases e) t ht
    intro pl as v sB nxB p1 p2 hTold hPB hgB hosB hp1 hp2 b69 b123 NB FB
    have bT := hPB.R (L + 1, oT2) (by simp)
    have bL := hPB.R (L + 1 + 1, oL1) (by simp)
    have bP := hPB.R (L + 1 + 1 + 1, oP) (by simp)
    have bM := hPB.R (L + 1 + 1 + 1 + 1, oM) (by simp)
    have bTl := hPB.R (tl, W.listOf (ts.map fun t => Value.ref t.a).toArray kt) (by simp)
    refine segC_c base L _ _ (L + 1) (L + 1 + 1) (L + 1 + 1 + 1) (L + 1 + 1 + 1 + 1) tl oT2 oL1 kt kl _ _ _ _ ts x nxB B X T FB NB dL1 dT2 hts8 hPB.x1 hPB.x2 hPB.xl bT bL bTl ?_
    intro hC tkC FC NC
    refine segD_c base L _ _ (L + 1) (L + 1 + 1) (L + 1 + 1 + 1) (L + 1 + 1 + 1 + 1) pl oL1 as v _ _ _ _ ts x nxB B X T FC NC dL1 hts8 bL hPB.pt hTold ?_ ?_
    · intro hD tkD mD FD ND
      exact hret _ nxB L mD FD ND ⟨p1, b69⟩ ⟨p2, b123⟩ hgB hosB
    intro pl2 ls k2' dl kd hD tkD hsemi hdn hLn hmn hTn FD ND
    have ND0 : News base L hD nxB := fun q hq => ND q (.tail _ hq)
    have fE : ∀ q ∈ (dl, W.listOf ((as.take (dueU (semiAt ts) ts.length).length).map Value.ref).toArray kd) :: nxB, (∀ v, q.2.data ≠ .cell v) → q ∈ offs ((dl, W.listOf ((as.take (dueU (semiAt ts) ts.length).length).map Value.ref).toArray kd) :: nxB) [L + 1 + 1 + 1 + 1, L + 1 + 1 + 1] := fun q hq hc => mem_offs hq fun e => by
      rcases List.mem_cons.mp e with e | e
      · exact ne_of_obj ND (a := q.1) (o := q.2) hq (.tail _ bM) (by rw [d1]; exact hc _) e
      · exact ne_of_obj ND (a := q.1) (o := q.2) hq (.tail _ bP) (by rw [d2]; exact hc _) (List.mem_singleton.mp e)
    have fE2 : ∀ q ∈ nxB, (∀ v, q.2.data ≠ .cell v) → q ∈ offs ((dl, W.listOf ((as.take (dueU (semiAt ts) ts.length).length).map Value.ref).toArray kd) :: nxB) [L + 1 + 1 + 1 + 1, L + 1 + 1 + 1] := fun q hq hc => fE q (.tail _ hq) hc
    have NE : News base L hD ((L + 1 + 1 + 1 + 1, oM) :: (L + 1 + 1 + 1, oP) :: offs ((dl, W.listOf ((as.take (dueU (semiAt ts) ts.length).length).map Value.ref).toArray kd) :: nxB) [L + 1 + 1 + 1 + 1, L + 1 + 1 + 1]) := fun q hq => ND q (by
      rcases List.mem_cons.mp hq with rfl | hq
      · exact .tail _ bM
      rcases List.mem_cons.mp hq with rfl | hq
      · exact .tail _ bP
      · exact offs_sub hq)
    have cTE : (L + 1, oT2) ∈ offs ((dl, W.listOf ((as.take (dueU (semiAt ts) ts.length).length).map Value.ref).toArray kd) :: nxB) [L + 1 + 1 + 1 + 1, L + 1 + 1 + 1] := mem_offs (.tail _ bT) (by
      have e1 : @Ne Nat (L + 1) (L + 1 + 1 + 1 + 1) := by omega
      have e2 : @Ne Nat (L + 1) (L + 1 + 1 + 1) := by omega
      intro e
      rcases List.mem_cons.mp e with e | e
      · exact e1 e
      · exact e2 (List.mem_singleton.mp e))
    generalize hNN : offs ((dl, W.listOf ((as.take (dueU (semiAt ts) ts.length).length).map Value.ref).toArray kd) :: nxB) [L + 1 + 1 + 1 + 1, L + 1 + 1 + 1] = nE at *
    have hoE : OwnOff nE [L + 1 + 1 + 1 + 1, L + 1 + 1 + 1] := hNN ▸ offs_off _ _
    have e9 : @Ne Nat (L + 1 + 1 + 1 + 1) (L + 1 + 1 + 1) := by omega
    have d1' : oM.data = .cell none := d1
    rw [hxd] at hLn
    refine segE_c base L _ _ (L + 1) (L + 1 + 1) (L + 1 + 1 + 1) (L + 1 + 1 + 1 + 1) tl pl pl2 dl oT2 oM oP none none as ls kt k2' kd _ _ _ _ ts dep dt nE B X T
      (fr_if (x := Str.ofString "due") (v := .ref dl) (fr_if (x := Str.ofString "told") (v := .ref pl2) (fr_if (x := Str.ofString "depth") (v := .int dep dt) FD rfl) rfl) rfl) NE e9 hoE d1 d2 dT2 cTE (fE2 _ bTl (by intro v e; cases e)) hts8 (fE _ (.head _) (by intro v e; cases e)) (hPB.pt.noncell fE2) hdn (hLn.noncell fE2) (fE2 _ hmn (by intro v e; cases e)) (hTn.noncell fE2) (by passes_own) ?_
    intro oM2 oP2 hE tkE mE FE hmE NE2
    have NF : News base L hE nE := fun q hq => NE2 q (.tail _ (.tail _ hq))
    have zc : mE (Str.ofString "code") = some (.str (Txt.mul (Str.ofString " ") (2 * dep) ++ Txt.join (Str.ofString " ") (ts.map fun t => t.val)) tc) := (hmE _ (by decide +kernel) (by decide +kernel) (by decide +kernel)).trans rfl
    have zp : mE (Str.ofString "parts") = some (.ref pl) := (hmE _ (by decide +kernel) (by decide +kernel) (by decide +kernel)).trans rfl
    have zt : mE (Str.ofString "told") = some (.ref pl2) := (hmE _ (by decide +kernel) (by decide +kernel) (by decide +kernel)).trans rfl
    have zd : mE (Str.ofString "depth") = some (.int dep dt) := (hmE _ (by decide +kernel) (by decide +kernel) (by decide +kernel)).trans rfl
    refine segF_c base L _ _ (L + 1) (L + 1 + 1) (L + 1 + 1 + 1) (L + 1 + 1 + 1 + 1) pl pl2 as ls k2' _ _ _ _ ts dep dt tc nE p1 B X T hgB
      (fr_if (x := Str.ofString "told") (v := .ref pl2) (fr_if (x := Str.ofString "parts") (v := .ref pl) (fr_if (x := Str.ofString "code") (v := .str (Txt.mul (Str.ofString " ") (2 * dep) ++ Txt.join (Str.ofString " ") (ts.map fun t => t.val)) tc) (fr_if (x := Str.ofString "depth") (v := .int dep dt) FE zd) ((if_neg (by decide +kernel)).trans zc)) ((if_neg (by decide +kernel)).trans ((if_neg (by decide +kernel)).trans zp))) ((if_neg (by decide +kernel)).trans ((if_neg (by decide +kernel)).trans ((if_neg (by decide +kernel)).trans zt))))
      NF hts8 q9 hd0 (by omega) (fE2 _ b69 (by intro v e; cases e)) hp1 (hPB.pt.noncell fE2) hsemi hdn (hLn.noncell fE2) (fE2 _ hmn (by intro v e; cases e)) (hTn.noncell fE2) ?_
    · intro sF mF led FF NFF h69F hKF hgF hosF
      exact hret sF led L mF FF NFF h69F ⟨p2, hKF _ (fE2 _ b123 (by intro v e; cases e)) (by show @Ne Nat 123 69; decide)⟩ hgF (hosF.trans hosB)
end Mine
end
section
open PySem PySem.W PyProof.Rows PySem.Spec PySem.Calls
namespace Mine
def tabO2 (ps : Array Value) : Obj := { cls := .none, data := .fields ps }
noncomputable def K2 : Params → Frag := fun P => (69, tabO2 #[]) :: (123, tabO2 #[]) :: hd.heap_39 P
def p0 : Program := { main := { body := [.Import [{ name := "sys", asname := none, pos := ⟨0, 0, 0, 0⟩ }] ⟨0, 0, 0, 0⟩], scope := { kind := .module, names := [], isGenerator := false, isCoroutine := false }, futureAnnotations := false, file := "" }, modules := [], parses := [], absent := [] }
theorem fillZ {w : World} {h₀ : Heap} (X : (hd.heap_39 w.params).In h₀) : (hd.heap_39 w.params).In h₀ ∧ PySem.Challenge.rw_bu5043_01 = PySem.Challenge.rw_bu5043_01 := by
  k_fill
  exact ⟨X, rfl⟩
theorem law_at {P : Params} {h : Heap} {mg : Str → Option Value} (X : (hd.heap_39 P).In h) (G : h.Ns mainGlobals mg) : mg (Str.ofString "law") = some (.ref 530) := mg_of X G (by k_is)
theorem no69 {P : Params} : (hd.heap_39 P).lookup 69 = none := by kernel_rfl
theorem no123 {P : Params} : (hd.heap_39 P).lookup 123 = none := by kernel_rfl
theorem ns_hide {h h' : Heap} {a : Addr} {m : Str → Option Value} (n : h.Ns a m) (hk : ∀ b o, b ≠ 69 → b ≠ 123 → h.get? b = some o → h'.get? b = some o) (h1 : a ≠ 69) (h2 : a ≠ 123) : h'.Ns a m :=
  n.at' fun o e => hk a o h1 h2 e
theorem fin_call {w : World} {p : Program} {loose : List Str} {mean : ExcName → Option Value} {mg mb : Str → Option Value} (s₁ : Shared) (fa la : Addr) (vs : List Value) (ns : List Int) (R : Result → Shared → Prop)
    (KX : (K2 w.params).In s₁.heap) (T : Top p loose mean mg mb s₁.heap) (hmg : mg (Str.ofString "law") = some (.ref fa)) (hL : s₁.heap.IsList la vs.toArray) (hI : IntsAre vs ns) (hns : ns.length ≤ 63) (hg : AllBare s₁.gens)
    (hret : ∀ s', OldK s₁.heap s'.heap → AllBare s'.gens → s'.os = s₁.os → R (.ok (.ret (.bool true))) s') :
    codeAny (model pr w) callerA (.call (.ref fa) ⟨[.ref la], []⟩) R s₁ := by
  have h69 : s₁.heap.get? 69 = some (tabO #[]) := KX 69 (tabO2 #[]) rfl
  have h123 : s₁.heap.get? 123 = some (tabO #[]) := KX 123 (tabO2 #[]) rfl
  have KH : (hd.heap_39 w.params).In s₁.heap := fun a o e => by
    by_cases h1 : a = 69
    · subst h1; rw [no69] at e; cases e
    by_cases h2 : a = 123
    · subst h2; rw [no123] at e; cases e
    refine KX a o ?_
    show List.lookup a ((69, _) :: (123, _) :: hd.heap_39 w.params) = _
    rw [List.lookup_cons, List.lookup_cons, beq_false_of_ne h1, beq_false_of_ne h2]
    exact e
  have hfa : fa = 530 := by
    have := (law_at KH T.g).symm.trans hmg
    exact (Value.ref.inj (Option.some.inj this)).symm
  subst hfa
  have hk : ∀ b o, b ≠ 69 → b ≠ 123 → s₁.heap.get? b = some o → (hideAll s₁.heap [69, 123]).get? b = some o := fun b o h1 h2 e => hideAll_get _ e fun hm => by
    rcases List.mem_cons.mp hm with h | h
    · exact h1 h
    · exact h2 (List.mem_singleton.mp h)
  have hd : ∀ b o, s₁.heap.get? b = some o → (∀ vs, o.data ≠ .fields vs) → (hideAll s₁.heap [69, 123]).get? b = some o := fun b o e hf => hk b o (fun h => by
    rw [h, h69] at e; cases e; exact hf _ rfl) (fun h => by
    rw [h, h123] at e; cases e; exact hf _ rfl) e
  have T0 : Top p0 (loose ++ (recsOf p).map (·.name) ++ (litsOf p).map (·.1) ++ (clssOf p loose).map (·.name)) mean mg mb (hideAll s₁.heap [69, 123]) :=
    { g := ns_hide T.g hk (by decide) (by decide)
      b := ns_hide T.b hk (by decide) (by decide)
      nolimit := let ⟨mc, h1, h2⟩ := T.nolimit; ⟨mc, ns_hide h1 hk (by decide) (by decide), h2⟩
      nodigits := let ⟨mc, h1, h2⟩ := T.nodigits; ⟨mc, ns_hide h1 hk (by decide) (by decide), h2⟩
      fn := fun d hd => nomatch hd
      own := fun o ho => nomatch ho
      const := fun x d e => nomatch e
      free := fun x h1 h2 _ _ _ => T.free x h1 (fun h => h2 (by simp [h])) (fun h => h2 (by simp only [List.mem_append]; exact .inl (.inl (.inr h)))) (fun h => h2 (by simp only [List.mem_append]; exact .inl (.inr h))) (fun h => h2 (by simp only [List.mem_append]; exact .inr h))
      builtins := T.builtins
      tab := fun d hd => nomatch hd
      bmain := let ⟨bm, ob, h1, h2, h3, h4, h5, h6⟩ := T.bmain; ⟨bm, ob, h1, h2, hd bm ob h3 (by rw [h6]; intro _ e; cases e), h4, h5, h6⟩
      seer := fun e => absurd e (by decide +kernel) }
  refine law_c s₁ la vs ns (hideAll s₁.heap [69, 123]) R (fun b o e => of_hideAll _ e) (hideAll_size _ _) (fun a o e => hk a o ?_ ?_ (KH a o e)) T0 h69 (hideAll_none _ (by simp)) h123 (hideAll_none _ (by simp)) ?_ hI hns hg ?_
  · rintro rfl; rw [no69] at e; cases e
  · rintro rfl; rw [no123] at e; cases e
  · obtain ⟨o, e, r⟩ := hL
    exact ⟨o, hd la o e (by obtain ⟨_, n, r⟩ := r; rw [r]; intro _ e; cases e), r⟩
  · intro s' led L m F N ⟨q1, hq1⟩ ⟨q2, hq2⟩ hg' hos'
    have t1 : isCodeTable s₁.heap 69 := (code_AsCode KH h69 (by simp [TriplesOk])).2.isCodeTable
    have t2 : isCodeTable s₁.heap 123 := (code_has_semicolon KH h123 (by simp [TriplesOk])).2.isCodeTable
    refine hret s' ⟨fun b o e => ?_, fun b o e => ?_⟩ hg' hos'
    · by_cases h1 : b = 69
      · subst h1
        rw [h69] at e; cases e
        exact .inr (.inl ⟨t1, rfl, #[], q1, rfl, by have := (N _ hq1).1; simpa using this⟩)
      by_cases h2 : b = 123
      · subst h2
        rw [h123] at e; cases e
        exact .inr (.inl ⟨t2, rfl, #[], q2, rfl, by have := (N _ hq2).1; simpa using this⟩)
      · exact .inl (F.keep b o (hk b o h1 h2 e))
    · by_cases h1 : b = 69
      · subst h1; exact ⟨_, (N _ hq1).1⟩
      by_cases h2 : b = 123
      · subst h2; exact ⟨_, (N _ hq2).1⟩
      · exact ⟨o, F.keep b o (hk b o h1 h2 e)⟩
end Mine
end
namespace Mine
def as2 : List Addr := [69, 123, 2, 3, 15, 17, 18, 20, 21, 22, 29, 30, 32, 33, 35, 36, 37, 39, 40, 42, 43, 44, 46, 47, 49, 50, 51, 53, 54, 56, 57, 58, 59, 61, 62, 64, 65, 66, 67, 68, 70, 71, 73, 74, 75, 77, 78, 80, 81, 82, 84, 85, 87, 88, 89, 90, 92, 93, 95, 96, 97, 98, 100, 101, 103, 104, 105, 106, 108, 109, 111, 112, 113, 114, 116, 117, 119, 120, 121, 122, 124, 125, 127, 128, 129, 130, 131, 132, 133, 134, 137, 144, 145, 147, 148, 150, 151, 152, 154, 155, 157, 158, 159, 161, 162, 164, 165, 166, 168, 169, 171, 172, 173, 175, 176, 178, 179, 180, 182, 183, 185, 186, 187, 189, 190, 192, 193, 194, 196, 197, 199, 200, 201, 203, 204, 206, 207, 208, 210, 211, 213, 214, 215, 216, 218, 219, 221, 222, 223, 224, 226, 227, 229, 230, 231, 233, 234, 236, 237, 238, 240, 241, 243, 244, 245, 246, 247, 248, 249, 252, 259, 260, 261, 263, 264, 266, 267, 268, 270, 271, 273, 274, 275, 277, 278, 280, 281, 282, 284, 285, 287, 288, 289, 291, 292, 294, 295, 296, 298, 299, 301, 302, 303, 305, 306, 308, 309, 310, 312, 313, 315, 316, 319, 321, 322, 324, 325, 326, 327, 328, 329, 332, 339, 340, 341, 342, 343, 346, 347, 349, 350, 352, 353, 354, 355, 357, 358, 360, 361, 362, 369, 371, 372, 374, 375, 376, 378, 379, 381, 382, 383, 385, 386, 388, 389, 390, 392, 393, 395, 396, 397, 399, 400, 402, 403, 404, 406, 407, 409, 410, 411, 412, 414, 415, 417, 418, 419, 420, 422, 423, 425, 426, 427, 428, 430, 431, 433, 434, 435, 436, 438, 439, 441, 442, 443, 444, 446, 447, 449, 450, 451, 452, 454, 455, 457, 458, 459, 460, 462, 463, 465, 466, 467, 468, 470, 471, 473, 474, 475, 476, 478, 479, 481, 482, 483, 484, 485, 486, 487, 488, 491, 493, 494, 496, 497, 498, 500, 501, 503, 504, 505, 507, 508, 510, 511, 512, 514, 515, 517, 518, 519, 521, 522, 524, 525, 526, 529, 530]
end Mine
theorem PySem.Challenge.cw_bu5043_01_holds : PySem.Challenge.rw_bu5043_01.Holds := by
  w_on
  o_law
  o_head (kHook Mine.K2 Mine.as2 (fun _ => by kernel_rfl))
  (case hw => w_witness2)
  intro w s₀ s₁ mg mb G Y fa o pm cd doc dV kV ho hd' hcd hD hmg hg args vals as hpre hlay hrd hwl hlo
  have X := (Ground.X G).1
  have V := (Ground.X G).2
  refine Ground.open G ?_
  intro T B D TE TW
  try (refine guard_noD D (by decide +kernel) ?_; clear D)
  obtain ⟨_, _, M⟩ := bmod_of_top T
  have TA := at_of_top T
  try (obtain ⟨_, _, he, B0⟩ := based_of_top T rfl hmg ho hd'; have he' : cd = _ := he; subst he'; clear he)
  wrow_args hpre hlay hrd hwl hlo
  with_reducible rename IntsAre _ _ => hI
  with_reducible rename PySem.Heap.IsList _ _ _ => hLL
  with_reducible rename ¬ _ => hcond
  refine wpAny_call (Mine.fin_call s₁ fa _ _ _ _ (kIn_of Y) T hmg hLL hI (by omega) (.of_eq hg) ?_)
  intro s' hO hg' hos'
  refine ⟨.inl ⟨_, .bool true, [], rfl, raisesW_false ?_, .bool true, ?_, unshared_nil⟩, hO, hos', hg'⟩
  · wrow_none_raised
  · wrow_post
