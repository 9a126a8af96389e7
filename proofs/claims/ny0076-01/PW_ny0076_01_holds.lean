import PyProof.Rows.All
import Wide.All
import OpenK.AllK
import Wide.FinOn
import PySem.Challenge.RW_ny0076_01
set_option Elab.async false
set_option maxRecDepth 100000
set_option maxHeartbeats 8000000
set_option compiler.extract_closed false
section
open PySem PySem.W PyProof.Rows
namespace Mine
open_top hd for PySem.Challenge.rw_ny0076_01
end Mine
end
/- CName -/
noncomputable section
open PySem PySem.W PyProof.Rows PySem.Calls
namespace Mine
def bitN (p : Int) (i : Nat) : Nat := (p / 2 ^ i % 2).toNat
noncomputable def figL (p : Int) : Nat → List Nat
  | 0 => []
  | n + 1 => (48 + bitN p n) :: figL p n
def figT (p : Int) (n : Nat) : Str := ⟨(figL p n).toArray⟩
theorem figL_length (p : Int) : ∀ n, (figL p n).length = n
  | 0 => rfl
  | n + 1 => by rw [figL, List.length_cons, figL_length p n]
theorem figT_length (p : Int) (n : Nat) : (figT p n).length = n := by
  show (figL p n).toArray.size = n
  rw [List.size_toArray, figL_length]
theorem fmod2 (x : Int) : x.fmod 2 = x % 2 := Int.fmod_eq_emod_of_nonneg x (by decide)
theorem fdiv2 (x : Int) : x.fdiv 2 = x / 2 := Int.fdiv_eq_ediv_of_nonneg x (by decide)
theorem item01 (x : Int) : Txt.item (Str.ofString "01") (x.fmod 2) = ⟨#[48 + (x % 2).toNat]⟩ := by
  rw [fmod2]
  have h1 := Int.emod_nonneg x (b := 2) (by decide)
  have h2 := Int.emod_lt_of_pos x (b := 2) (by decide)
  have : x % 2 = 0 ∨ x % 2 = 1 := by omega
  rcases this with h | h <;> rw [h] <;> decide +kernel
theorem name_start (n : Int) : Str.ofString "" = figT n ([] : List Int).length ∧ n = n / 2 ^ ([] : List Int).length ∧ (Str.ofString "").length = ([] : List Int).length := by
  refine ⟨by rfl, by simp, by decide +kernel⟩
theorem name_turn {n port k : Int} {figures : Str} {pre : List Int} (h1 : figures = figT n pre.length) (h2 : port = n / 2 ^ pre.length) (_h3 : figures.length = pre.length) :
    (Txt.item (Str.ofString "01") (port.fmod 2) ++ figures) = figT n (pre ++ [k]).length ∧ port.fdiv 2 = n / 2 ^ (pre ++ [k]).length ∧ (Txt.item (Str.ofString "01") (port.fmod 2) ++ figures).length = (pre ++ [k]).length := by
  have e : (pre ++ [k]).length = pre.length + 1 := by simp
  have e1 : (Txt.item (Str.ofString "01") (port.fmod 2) ++ figures) = figT n (pre ++ [k]).length := by
    rw [item01, e, h1, h2]
    refine Str.ext' ?_
    show #[_] ++ (figL n pre.length).toArray = (_ :: figL n pre.length).toArray
    simp [bitN]
  refine ⟨e1, ?_, ?_⟩
  · rw [fdiv2, e, h2, Int.ediv_ediv_of_nonneg (by exact Int.pow_nonneg (by decide)), Int.pow_succ]
  · rw [e1, figT_length]

def nameC (p : Int) : List Nat := 47 :: (figL p 16 ++ [47])
def nameT (p : Int) : Str := ⟨(nameC p).toArray⟩
theorem nameT_eq (p : Int) : Str.ofString "/" ++ figT p 16 ++ Str.ofString "/" = nameT p := by
  refine Str.ext' ?_
  have e : (Str.ofString "/") = ⟨#[47]⟩ := by decide +kernel
  rw [e]
  show #[47] ++ (figL p 16).toArray ++ #[47] = (47 :: (figL p 16 ++ [47])).toArray
  simp

theorem name_call {w : World} {p : Program} {loose : List Str} {mean : ExcName → Option Value} {mg mb : Str → Option Value}
    {dp un : Nat} {gd : Option (List Code)} {cn : Str} {cs : Scope} {a : Addr} {ccd : Value} {cl : List (Str × Addr)} {outer : List Env} {A₀ : Around} {base h₀ : Heap} {L : Addr} {m : Str → Option Value} {news : List (Addr × Obj)} {s : Shared} {Q E : Value → Shared → Prop}
    (B : Below A₀ base outer h₀) (F : Fr h₀ L s.heap m) (X : (hd.heap_39 w.params).In h₀) (N : News h₀ L s.heap news) (T : Top p loose mean mg mb h₀) (hk : cs.kind = .function)
    (hdp : dp + 1 < recursionLimit) (hun : un + 8 < cLine) {n : Int} {t : Tok}
    (hret : ∀ t h' tk', Fr h₀ L h' m → News h₀ L h' news → Q (.str (nameT n) t) { s with heap := h', toks := tk' }) :
    wpAny (model PySem.Challenge.rw_ny0076_01.row.prog w) (ktrTop dp un gd cn cs L a ccd cl outer) (call (.ref 128) [.int n t]) Q E s := by
  revert X; k_fill; intro X
  k_with_none
  k_with "pyIter ref" => k_state_given ["port!"] (fun p₀ pre figures port => figures = figT p₀ pre.length ∧ port = p₀ / 2 ^ pre.length ∧ figures.length = pre.length) "figures" "port"
  k_with "state" => first | exact name_start _ | exact name_turn (by assumption) (by assumption) (by assumption)
  refine wpAny_call ?_
  k_dflt cell_enter
  k_steps
  simp only [rangeKs_length] at *
  subst_vars
  have hl := figT_length n (16 - 0 : Int).toNat
  k_steps
  have e : (Str.ofString "/" ++ figT n (16 - 0 : Int).toNat ++ Str.ofString "/") = nameT n := nameT_eq n
  rw [e]
  exact hret _ _ _ (by assumption) (by assumption)
end Mine
end
/- FnA -/
noncomputable section
open PySem PySem.W PyProof.Rows PySem.Calls
namespace Mine
open Builtin Builtin.ObjectAttr
theorem fn_set : Slot "function" "__setattr__" "object.__setattr__" :=
  .of (owner := "object") (n := "__setattr__") (by rw [typeLookup_type, builtinLookup_eq_fast]; kernel_rfl) (by decide +kernel) (by decide +kernel) (by decide +kernel)
    (by first | exact .inl (by decide +kernel) | exact .inr (by decide +kernel)) (by rw [isSubtype_type]; kernel_rfl)
theorem fn_get : Slot "function" "__getattribute__" "object.__getattribute__" :=
  .of (owner := "object") (n := "__getattribute__") (by rw [typeLookup_type, builtinLookup_eq_fast]; kernel_rfl) (by decide +kernel) (by decide +kernel) (by decide +kernel)
    (by first | exact .inl (by decide +kernel) | exact .inr (by decide +kernel)) (by rw [isSubtype_type]; kernel_rfl)
theorem fn_nohook : typeLookup (.type "function") "__getattr__" = pure none := by rw [typeLookup_type, builtinLookup_eq_fast]; kernel_rfl
theorem fn_app : typeLookup (.type "function") "applies_to" = pure none := by rw [typeLookup_type, builtinLookup_eq_fast]; kernel_rfl
theorem fn_all : typeLookup (.type "function") "allowance" = pure none := by rw [typeLookup_type, builtinLookup_eq_fast]; kernel_rfl
theorem fn_mro : mroOf (.type "function") = pure [.type "function", .type "object"] := by kernel_rfl
theorem fn_pass (self : Value) : refuseLoop self "__setattr__" [.type "function", .type "object"] = pure () := by kernel_rfl

section
variable {prog : Program} {w : World} {A : Around} {E : Value → Shared → Prop} {s : Shared} {x : Addr} {o : Obj} {name : Str} {v : Value}
theorem fn_store {tk : Tok} {Q : Fin → Shared → Prop} (hx : s.heap.get? x = some o) (hc : o.cls = .type "function") (hl : typeLookup (.type "function") name = pure none)
    (h : wpAny (model prog w) A (storeInOwnDict (.ref x) (.type "function") (.str name tk) name v false) Q E s) :
    wpAny (model prog w) A (Builtin.«object.__setattr__» ⟨[.ref x, .str name tk, v], []⟩) Q E s := by
  have T : s.TypeIs (.ref x) "function" := ⟨o, hx, hc⟩
  rw [osa_eq, refuse_eq]
  refine wpAny_bind (wpAny_bind (wpAny_typeOf T ?_))
  rw [fn_mro]
  refine wpAny_bind (wpAny_pure ?_)
  rw [fn_pass]
  refine wpAny_pure (wpAny_bind (wpAny_typeOf T ?_))
  rw [hl]
  refine wpAny_bind (wpAny_pure (wpAny_bind (wpAny_pure ?_)))
  exact h
theorem fn_setAttr {Q : Unit → Shared → Prop} (hx : s.heap.get? x = some o) (hc : o.cls = .type "function") (hl : typeLookup (.type "function") name = pure none)
    (h : wpAny (model prog w) A.in1 (storeInOwnDict (.ref x) (.type "function") (.str name s.toks) name v false) (fun fin s' => match fin with | .done (.ret _) => Q () s' | _ => False) E { s with toks := s.toks + 1 }) :
    wpAny (model prog w) A (setAttr (.ref x) name v) Q E s := by
  have T : ∀ tk, ({ s with toks := tk } : Shared).TypeIs (.ref x) "function" := fun _ => ⟨o, hx, hc⟩
  refine wpAny_bind (wpAny_mkText (wpAny_bind (wpAny_bind (wpAny_bind (wpAny_typeOf (T _) ?_)))))
  rw [fn_set.lookup]
  refine wpAny_pure (wpAny_holding ?_)
  rw [fn_set.bind]
  refine wpAny_bind (wpAny_pure (wpAny_bind (wpAny_call (codeAny_call_builtin fn_set.plain PySem.F.entry_object_setattr (fn_set.check _ _ _ _ _ _ _ _ (T _) (PySem.F.args_object_setattr_3 _ _ _) ?_)))))
  refine fn_store hx hc hl (wpAny_mono h (fun fin s' z => ?_) fun _ _ e => e)
  rcases fin with (f | c)
  · cases f <;> first | exact z.elim | exact wpAny_pure (wpAny_pure z)
  · exact z.elim
end
section
variable {prog : Program} {w : World} {A : Around} {E : Value → Shared → Prop} {s : Shared} {x L : Addr} {name : Str} {v : Value} {h₀ : Heap} {m : Str → Option Value} {news : List (Addr × Obj)} {g : Obj → List (Addr × Obj)} {fd : FuncData} {sl : Array (Option Value)} {Q : Unit → Shared → Prop}
abbrev fnObj (fd : FuncData) (d : Option Addr) (sl : Array (Option Value)) : Obj := ⟨.type "function", d, .func fd, sl⟩

theorem fn_put {d : Addr} {es : List DictEntry} {n : Nat} {Q : Fin → Shared → Prop} {tk : Tok} {pre post : List (Addr × Obj)} (F : Fr h₀ L s.heap m) (N : News h₀ L s.heap (pre ++ (d, dictOf es n) :: post)) (h1 : ∀ p ∈ pre, p.1 ≠ d) (h2 : ∀ p ∈ post, p.1 ≠ d)
    (hl : (getL name es).isSome = true) (hz : (putL name (PyData.keyHash w.params name) (.str name s.toks) v es).length ≤ 1000)
    (h : ∀ h', Fr h₀ L h' m → News h₀ L h' (pre ++ (d, dictOf (putL name (PyData.keyHash w.params name) (.str name s.toks) v es) (putN name es n)) :: post) → Q (.done (.ret .none)) { s with heap := h', toks := s.toks + 1 }) :
    wpAny (model prog w) A (storeInDict d (.str name tk) name v) Q E s := by
  obtain ⟨U1, U2⟩ := news_upd (f := Obj.putName name (PyData.keyHash w.params name) (.str name s.toks) v) F N h1 h2 (putName_dict _ _ _ _ _ _) rfl
  have D := (N (d, dictOf es n) (by simp)).1
  have D' := (U2 (d, dictOf (putL name (PyData.keyHash w.params name) (.str name s.toks) v es) (putN name es n)) (by simp)).1
  unfold storeInDict newKeyGuard
  refine wpAny_bind (wpAny_pure (wpAny_bind ?_))
  unfold nsSet
  refine wpAny_bind (wpAny_bind (wpAny_askSetting (wpAny_pure (wpAny_bind (wpAny_mkText (wpAny_bind (wpAny_loadPart D ?_)))))))
  dsimp only
  have c : (!es.any (·.key.isStr name) && es.any (·.refKey)) = false := by
    unfold getL at hl
    split at hl
    · rename_i en he
      rw [List.any_eq_true.mpr ⟨en, List.mem_of_find?_eq_some he, List.find?_some he⟩]; rfl
    · split at hl
      · cases hl
      · rename_i z; rw [Bool.not_eq_true] at z; rw [z, Bool.and_false]
  rw [aRefKeyMayBeTheName_at, ← Array.any_toList, ← Array.any_toList, c]
  refine wpAny_updatePart D ?_
  refine wpAny_bind (wpAny_lookBehind D' (pastItsLine_dict (by rw [List.size_toArray, sizeLine_eq]; omega)) ?_)
  exact wpAny_pure (h _ U1 U2)

theorem fn_set0 (F : Fr h₀ L s.heap m) (N : News h₀ L s.heap news) (U : UpdF x (fnObj fd none sl) news g) (hl : typeLookup (.type "function") name = pure none)
    (h : ∀ d h', Fr h₀ L h' m → News h₀ L h' ((d, dictOf [⟨PyData.keyHash w.params name, .str name (s.toks + 1), v⟩] 1) :: g (fnObj fd (some d) sl)) → (∀ p ∈ news, p.1 < d) → Q () { s with heap := h', toks := s.toks + 2 }) :
    wpAny (model prog w) A (setAttr (.ref x) name v) Q E s := by
  obtain ⟨pre, post, rfl, hg, h1, h2⟩ := U.split
  have hx : s.heap.get? x = some (fnObj fd none sl) := (N (x, _) (by simp)).1
  have lt : ∀ p ∈ pre ++ (x, fnObj fd none sl) :: post, p.1 < s.heap.objs.size := fun p hp => Heap.lt_size (N p hp).1
  refine fn_setAttr hx rfl hl ?_
  unfold storeInOwnDict
  refine wpAny_bind (wpAny_pure (wpAny_bind ?_))
  show wpAny _ _ (instanceDict x true) _ _ _
  unfold instanceDict
  refine wpAny_bind (wpAny_loadPart hx ?_)
  dsimp only
  refine wpAny_bind (wpAny_alloc' ?_)
  have F1 := F.push { cls := .type "dict", data := .dict #[] }
  have N1 := N.push F { cls := .type "dict", data := .dict #[] }
  obtain ⟨F2, N2⟩ := news_upd (f := fun o => { o with dict := some s.heap.objs.size }) F1 (pre := (s.heap.objs.size, { cls := .type "dict", data := .dict #[] }) :: pre) (post := post) (d := x) (o := fnObj fd none sl) (o' := fnObj fd (some s.heap.objs.size) sl) N1
    (fun p hp => by rcases List.mem_cons.mp hp with rfl | hp; exact Nat.ne_of_gt (Heap.lt_size hx); exact h1 p hp) h2 rfl rfl
  refine wpAny_bind (wpAny_update (Heap.get?_push_of_some _ hx) ?_)
  refine wpAny_pure ?_
  refine fn_put (pre := []) (es := []) (n := 0) (s := { s with heap := _, toks := s.toks + 1 }) F2 N2 (fun p hp => nomatch hp) (fun p hp => ?_) rfl (by show 1 ≤ 1000; omega) fun h' F' N' => ?_
  · rcases List.mem_append.mp hp with q | q
    · exact Nat.ne_of_lt (lt p (by simp [q]))
    · rcases List.mem_cons.mp q with rfl | q
      · exact Nat.ne_of_lt (Heap.lt_size hx)
      · exact Nat.ne_of_lt (lt p (by simp [q]))
  · exact h _ h' F' (by rw [hg]; exact N') lt

theorem fn_set1 {d : Addr} {es : List DictEntry} {n : Nat} (F : Fr h₀ L s.heap m) (N : News h₀ L s.heap news) (hm : (x, fnObj fd (some d) sl) ∈ news) (U : UpdF d (dictOf es n) news g) (hl : typeLookup (.type "function") name = pure none)
    (hs : (getL name es).isSome = true) (hz : (putL name (PyData.keyHash w.params name) (.str name (s.toks + 1)) v es).length ≤ 1000)
    (h : ∀ h', Fr h₀ L h' m → News h₀ L h' (g (dictOf (putL name (PyData.keyHash w.params name) (.str name (s.toks + 1)) v es) (putN name es n))) → Q () { s with heap := h', toks := s.toks + 2 }) :
    wpAny (model prog w) A (setAttr (.ref x) name v) Q E s := by
  obtain ⟨pre, post, rfl, hg, h1, h2⟩ := U.split
  have hx : s.heap.get? x = some (fnObj fd (some d) sl) := (N (x, _) hm).1
  refine fn_setAttr hx rfl hl ?_
  unfold storeInOwnDict
  refine wpAny_bind (wpAny_pure (wpAny_bind ?_))
  show wpAny _ _ (instanceDict x true) _ _ _
  unfold instanceDict
  refine wpAny_bind (wpAny_loadPart hx ?_)
  dsimp only
  refine wpAny_pure ?_
  refine fn_put (s := { s with toks := s.toks + 1 }) F N h1 h2 hs hz fun h' F' N' => ?_
  exact h h' F' (by rw [hg]; exact N')
end
section
variable {prog : Program} {w : World} {A : Around} {E : Value → Shared → Prop} {s : Shared} {x d : Addr} {name : Str} {v : Value} {fd : FuncData} {sl : Array (Option Value)} {es : List DictEntry} {n : Nat}
theorem fn_nsGet {Q : Option Value → Shared → Prop} (hd : s.heap.get? d = some (dictOf es n)) (hg : getL name es = some (some v)) (h : Q (some v) s) : wpAny (model prog w) A (nsGet d name) Q E s := by
  unfold nsGet
  refine wpAny_bind (wpAny_loadPart hd ?_)
  rw [nsLook_eq]
  show wpAny _ _ (match es.toArray.find? (fun e => e.key.isStr name) with | some e => pure (some e.val) | none => if es.toArray.any (·.refKey) then unsupported "namespace:key-that-is-no-exact-str" else pure none) _ _ _
  unfold getL at hg
  rw [List.find?_toArray]
  split at hg
  · rename_i en he
    rw [he]
    cases hg
    exact wpAny_pure h
  · split at hg <;> cases hg
theorem fn_load {tk : Tok} {Q : Fin → Shared → Prop} (hx : s.heap.get? x = some (fnObj fd (some d) sl)) (hd : s.heap.get? d = some (dictOf es n)) (hl : typeLookup (.type "function") name = pure none) (hg : getL name es = some (some v)) (h : Q (.done (.ret v)) s) :
    wpAny (model prog w) A (Builtin.«object.__getattribute__» ⟨[.ref x, .str name tk], []⟩) Q E s := by
  have T : s.TypeIs (.ref x) "function" := ⟨_, hx, rfl⟩
  unfold Builtin.«object.__getattribute__»
  refine wpAny_bind (wpAny_pure (wpAny_bind (wpAny_pure (wpAny_bind (wpAny_typeOf T ?_)))))
  refine wpAny_bind ?_
  unfold find
  rw [hl]
  refine wpAny_bind (wpAny_pure (wpAny_bind (wpAny_pure (wpAny_bind (wpAny_pure ?_)))))
  show wpAny _ _ (ownThenClass (.ref x) name none none) _ _ _
  unfold ownThenClass
  refine wpAny_bind ?_
  show wpAny _ _ (do inDict name (← ObjectAttr.ownDict x)) _ _ _
  refine wpAny_bind ?_
  unfold ObjectAttr.ownDict
  refine wpAny_bind (wpAny_loadPart hx ?_)
  show wpAny _ _ (instanceDict x false) _ _ _
  unfold instanceDict
  refine wpAny_bind (wpAny_loadPart hx ?_)
  dsimp only
  refine wpAny_pure ?_
  show wpAny _ _ (nsGet d name) _ _ _
  refine fn_nsGet hd hg ?_
  refine wpAny_bind (wpAny_rule (wpAny_pure ?_))
  exact wpAny_pure h
theorem fn_getAttr {expr : Bool} {Q : Value → Shared → Prop} (hx : s.heap.get? x = some (fnObj fd (some d) sl)) (hd : s.heap.get? d = some (dictOf es n)) (hl : typeLookup (.type "function") name = pure none) (hg : getL name es = some (some v)) (hv : handedOut v = pure v)
    (h : Q v { s with toks := s.toks + 1 }) : wpAny (model prog w) A (getAttr (.ref x) name expr) Q E s := by
  have T : ∀ tk, ({ s with toks := tk } : Shared).TypeIs (.ref x) "function" := fun _ => ⟨_, hx, rfl⟩
  unfold getAttr getAttrBy
  refine wpAny_bind (wpAny_mkText (wpAny_holding (wpAny_bind (wpAny_typeOf (T _) ?_))))
  rw [fn_get.lookup]
  refine wpAny_bind (wpAny_pure ?_)
  show wpAny _ _ (getAttrByItsOwn _ _ _ _ _ _) _ _ _
  unfold getAttrByItsOwn
  refine wpAny_bind (wpAny_pure (wpAny_bind (wpAny_attempt (wpAny_holding ?_))))
  have e : callGetattribute (.ref x) (.str name s.toks) (.builtin "object.__getattribute__") expr = boundAndCalled (.builtin "object.__getattribute__") (.ref x) (.str name s.toks) := by
    unfold callGetattribute
    rw [show onTheHeap (.builtin "object.__getattribute__") = false from rfl, Bool.and_false]
    rfl
  rw [e]
  unfold boundAndCalled
  rw [fn_get.bind]
  refine wpAny_bind (wpAny_pure (wpAny_call (codeAny_call_builtin fn_get.plain PySem.F.entry_object_getattribute (fn_get.check _ _ _ _ _ _ _ _ (T _) (PySem.F.args_object_getattribute_2 _ _) ?_))))
  refine fn_load hx hd hl hg ?_
  show wpAny _ _ (handedOut v) _ _ _
  rw [hv]
  exact wpAny_pure h
theorem fn_getMethod {pl : Sem Bool} {Q : Value × List Value → Shared → Prop} (hx : s.heap.get? x = some (fnObj fd (some d) sl)) (hd : s.heap.get? d = some (dictOf es n)) (hl : typeLookup (.type "function") name = pure none) (hg : getL name es = some (some v)) (hv : handedOut v = pure v)
    (h : Q (v, []) { s with toks := s.toks + 1 }) : wpAny (model prog w) A (getMethod (.ref x) name pl) Q E s := by
  have T : s.TypeIs (.ref x) "function" := ⟨_, hx, rfl⟩
  unfold getMethod
  refine wpAny_bind (wpAny_bind (wpAny_typeOf T ?_))
  rw [fn_get.lookup]
  refine wpAny_pure ?_
  dsimp only
  simp only [PySem.F.canon_object_ga, Bool.false_eq_true, if_false]
  refine wpAny_bind (wpAny_bind (wpAny_typeOf T ?_))
  rw [fn_nohook]
  refine wpAny_pure ?_
  simp only [Option.isSome_none, Bool.false_eq_true, if_false]
  refine wpAny_bind (wpAny_bind (wpAny_typeOf T ?_))
  rw [hl]
  refine wpAny_pure ?_
  exact wpAny_bind (fn_getAttr hx hd hl hg hv (wpAny_pure h))
end
end Mine
end
/- CRule -/
noncomputable section
open PySem PySem.W PyProof.Rows PySem.Calls
namespace Mine
theorem all_ne {c d : Nat} {l : List (Addr × Obj)} (h : AllLt c l) (hc : c ≤ d) : ∀ p ∈ l, p.1 ≠ d := fun p hp => Nat.ne_of_lt (Nat.lt_of_lt_of_le (kst_ltOf h p hp) hc)
local macro_rules | `(tactic| k_all) => `(tactic| exact all_ne (by assumption) (by omega))
local macro_rules | `(tactic| walk_at "setAttr ref") => `(tactic| (k_here; kn_here; k_dflt (first
  | (refine' fn_set0 ?F ?N ?U ?l ?_; (case F => k_asm); (case N => k_asm); (case U => k_updF); (case l => first | exact fn_app | exact fn_all); k_whole; intro d' h' F' N' l1; (try k_lt l1))
  | (refine' fn_set1 ?F ?N ?hm ?U ?l ?s ?z ?_; (case F => k_asm); (case N => k_asm); (case hm => k_mem); (case U => k_updF); (case l => first | exact fn_app | exact fn_all); (case s => rfl); (case z => exact Nat.le_of_ble_eq_true rfl); k_whole; intro h' F' N'))))

local macro_rules | `(tactic| walk_at "eval Name") => `(tactic| (k_here; k_dflt (refine' nameX_F ?N ?c ?m ?d ?_ ?a ?b; (case a => rfl); (case b => rfl); (case N => k_asm); (case c => rfl); (case m => assumption); (case d => assumption); k_whole)))

/-- what a call of a rule's `applies_to` does, wherever the objects `nw` stand -/
def AppSem (w : World) (nw : List (Addr × Obj)) (g : Addr) (path : Str) : Prop :=
  ∀ (p : Program) (loose : List Str) (mean : ExcName → Option Value) (mg mb : Str → Option Value)
    (dp un : Nat) (gd : Option (List Code)) (cn : Str) (cs : Scope) (a : Addr) (ccd : Value) (cl : List (Str × Addr)) (outer : List Env) (A₀ : Around) (base h₀ : Heap) (L : Addr) (m : Str → Option Value) (news : List (Addr × Obj)) (s : Shared) (Q E : Value → Shared → Prop),
    Below A₀ base outer h₀ → Fr h₀ L s.heap m → (hd.heap_39 w.params).In h₀ → News h₀ L s.heap news → Top p loose mean mg mb h₀ → cs.kind = .function → dp + 1 < recursionLimit → un + 8 < cLine → (∀ q ∈ nw, q ∈ news) →
    ∀ (name : Str) (t : Tok), name.length ≤ 100 →
    (∀ t h' tk', Fr h₀ L h' m → News h₀ L h' news → Q (.int (if Txt.startswith name path then (path.length : Int) + 1 else 0) t) { s with heap := h', toks := tk' }) →
    wpAny (model PySem.Challenge.rw_ny0076_01.row.prog w) (ktrTop dp un gd cn cs L a ccd cl outer) (call (.ref g) [.str name t]) Q E s

structure RuleIn (w : World) (nw : List (Addr × Obj)) (v : Value) (path : Str) (b : Bool) : Prop where
  is : ∃ f fd df sl es n g gfd gd gsl, v = .ref f ∧ (f, fnObj fd (some df) sl) ∈ nw ∧ (df, dictOf es n) ∈ nw ∧ (g, fnObj gfd gd gsl) ∈ nw ∧
    getL (Str.ofString "applies_to") es = some (some (.ref g)) ∧ getL (Str.ofString "allowance") es = some (some (.bool b)) ∧ AppSem w nw g path

abbrev lamQual : Str := Str.ofString "_law_rule" ++ ".<locals>." ++ Str.ofString "<lambda>"
def fullT (c1 c2 : Addr) : Array Value := #[rawInt 100, rawInt 11, .ref c1, rawInt 101, rawInt 22, .ref c2]
structure Codes (nw : List (Addr × Obj)) (c1 c2 : Addr) : Prop where
  one : ∃ oc vs t, (c1, oc) ∈ nw ∧ oc.data = .fields vs ∧ vs[1]? = some (.str lamQual t)
  two : ∃ oc vs t, (c2, oc) ∈ nw ∧ oc.data = .fields vs ∧ vs[1]? = some (.str lamQual t)

theorem leN {a b : Nat} (h : a ≤ b) : a ≤ b := h
theorem led6 {h₀ h : Heap} {L : Addr} {a b c d e f t : Addr × Obj} {news : List (Addr × Obj)} (N : News h₀ L h (a :: b :: c :: d :: e :: f :: t :: news)) : News h₀ L h (t :: ([a, b, c, d, e, f] ++ news)) :=
  fun p hp => N p (by simp only [List.cons_append, List.nil_append, List.mem_cons] at hp ⊢; rcases hp with h | h | h | h | h | h | h | h <;> simp [h])
theorem led4 {h₀ h : Heap} {L : Addr} {a b c d t : Addr × Obj} {news : List (Addr × Obj)} (N : News h₀ L h (a :: b :: c :: d :: t :: news)) : News h₀ L h (t :: ([a, b, c, d] ++ news)) :=
  fun p hp => N p (by simp only [List.cons_append, List.nil_append, List.mem_cons] at hp ⊢; rcases hp with h | h | h | h | h | h <;> simp [h])
theorem mem_l {α : Type} {x : α} {l r : List α} (h : x ∈ l) : x ∈ l ++ r := List.mem_append_left _ h
theorem mem_r {α : Type} {x : α} {l r : List α} (h : x ∈ r) : x ∈ l ++ r := List.mem_append_right _ h
theorem rule_call0 {w : World} {p : Program} {loose : List Str} {mean : ExcName → Option Value} {mg mb : Str → Option Value}
    {dp un : Nat} {gd : Option (List Code)} {cn : Str} {cs : Scope} {a : Addr} {ccd : Value} {cl : List (Str × Addr)} {outer : List Env} {A₀ : Around} {base h₀ : Heap} {L : Addr} {m : Str → Option Value} {news : List (Addr × Obj)} {s : Shared} {Q E : Value → Shared → Prop}
    (B : Below A₀ base outer h₀) (F : Fr h₀ L s.heap m) (X : (hd.heap_39 w.params).In h₀) (N : News h₀ L s.heap ((130, tabObj #[]) :: news)) (T : Top p loose mean mg mb h₀) (hk : cs.kind = .function) (C : CodeHd base 134 130) (hT : OwnOff news [130])
    (hdp : dp + 2 < recursionLimit) (hun : un + 16 < cLine) {x : Str} {t : Tok} {b : Bool} (hx : x.length ≤ 100)
    (hret : ∀ v add c1 c2 lo h' tk', Fr h₀ L h' m → News h₀ L h' ((130, tabObj (fullT c1 c2)) :: (add ++ news)) → 130 < lo → AllLt lo news → (∀ q ∈ add, lo ≤ q.1) → Codes add c1 c2 → RuleIn w add v x b → Q v { s with heap := h', toks := tk' }) :
    wpAny (model PySem.Challenge.rw_ny0076_01.row.prog w) (ktrTop dp un gd cn cs L a ccd cl outer) (call (.ref 135) [.str x t, .bool b]) Q E s := by
  revert X; k_fill; intro X
  k_with_none
  have kMark := kstMark
  refine wpAny_call ?_
  k_dflt (refine' code_defC ?k1 ?k2 ?k3 ?k4 ?k5 ?kA ?kF ?kK ?k6 ?k7 ?k8 ?k9 ?kB ?kD ?_ ?c2 ?c3 ?c4; (case kA => exact rfl); (case kF => exact rfl); (case kK => assumption); (case k1 => k_asm); (case k2 => k_asm); (case k3 => k_asm); (case k4 => k_asm); (case k5 => k_asm); (case k6 => k_is); (case k7 => k_is); (case k8 => ktr_room); (case k9 => exact BindsTo.of_eq rfl); (case kB => exact rfl); (case kD => decide +kernel); (case c2 => exact rfl); (case c3 => exact rfl); (case c4 => exact rfl); k_whole; intro g' L' h' tk' cells' FG' F' N' Y' B' X' T' l1; (try k_lt l1); k_cells Y'; (try simp only [List.cons_append, List.nil_append] at N'); (try dsimp only); (try k_lift B'); (try k_fold))
  have hA := l1.2
  have l9 := l1.1
  k_steps
  rename_i o1 d1 f1 c1 oc1 vs1 t1 ct1 h1 tk1 e1 e1' l1a l1b h2 F2 N2 f2 c2 oc2 vs2 t2 ct2 h3 tk3 F3 N3 e2 e2' l2a l2b d3 h4 F4 N4 l3 h5 F5 N5 kF kN kT kX
  have e : (#[] ++ #[rawInt ((100 : Nat) : Int), rawInt ((11 : Nat) : Int), Value.ref c1] ++ #[rawInt ((101 : Nat) : Int), rawInt ((22 : Nat) : Int), Value.ref c2]) = fullT c1 c2 := by simp [fullT]
  rw [e] at kN
  refine hret (.ref f1) _ c1 c2 L' h5 _ kF (led6 kN) l9 hA ?_ ?_ ?_
  · simp only [List.forall_mem_cons]
    refine ⟨?_, ?_, ?_, ?_, ?_, ?_, List.forall_mem_nil _⟩ <;> (refine leN ?_; omega)
  · exact ⟨⟨oc1, vs1, t1, by k_mem, e1, e1'⟩, ⟨oc2, vs2, t2, by k_mem, e2, e2'⟩⟩
  · refine ⟨f1, _, d3, _, _, _, f2, _, _, _, rfl, by k_mem, by k_mem, by k_mem, rfl, rfl, ?_⟩
    have hcell : o1.data = .cell (some (.str x t)) := d1
    clear kN N5 N4 N3 N2 N F5 F4 F3 F2 kF hret B F T X X' T' B' FG' kT kX hk hdp hun C hT
    intro p loose mean mg mb dp un gd cn cs a ccd cl outer A₀ base h₀ L m news s Q E B F X N T hk hdp hun hsub name t hname hret
    refine wpAny_call ?_
    k_dflt (refine' kla_code ?k1 ?k2 ?k3 ?k4 ?k5 ?kA ?kF ?kK ?k6 ?k7 ?k8 ?k9 ?kB ?_ ?c2 ?c3 ?c4 ?c5; (case kA => exact rfl); (case kF => exact rfl); (case kK => assumption); (case k1 => k_asm); (case k2 => k_asm); (case k3 => k_asm); (case k4 => k_asm); (case k5 => k_asm); (case k6 => (refine hsub _ ?_; k_mem)); (case k7 => exact codeRec_news N (hsub _ (by k_mem)) e2 e2'); (case k8 => ktr_room); (case k9 => exact rfl); (case c5 => decide); (case kB => exact locs rfl); (case c2 => exact rfl); (case c3 => exact rfl); (case c4 => exact rfl); k_whole; intro g' L' h' FG' F' N' B' X' T'; (try dsimp only); (try k_lift B'); (try k_fold))
    have hm := hsub (_, o1) (by k_mem)
    clear hsub
    k_steps
    all_goals (rename Txt.startswith _ _ = _ => hsw; simp only [hsw, if_true, if_false, Bool.false_eq_true] at hret; exact hret _ _ _ (by assumption) (by assumption))
theorem rule_callH {w : World} {p : Program} {loose : List Str} {mean : ExcName → Option Value} {mg mb : Str → Option Value}
    {dp un : Nat} {gd : Option (List Code)} {cn : Str} {cs : Scope} {a : Addr} {ccd : Value} {cl : List (Str × Addr)} {outer : List Env} {A₀ : Around} {base h₀ : Heap} {L : Addr} {m : Str → Option Value} {news : List (Addr × Obj)} {s : Shared} {Q E : Value → Shared → Prop}
    (B : Below A₀ base outer h₀) (F : Fr h₀ L s.heap m) (X : (hd.heap_39 w.params).In h₀) {c1 c2 : Addr} {tc : List (Addr × Obj)} (N : News h₀ L s.heap ((130, tabObj (fullT c1 c2)) :: news)) (Cd : Codes tc c1 c2) (T : Top p loose mean mg mb h₀) (hk : cs.kind = .function) (C : CodeHd base 134 130) (hT : OwnOff news [130])
    (hdp : dp + 2 < recursionLimit) (hun : un + 16 < cLine) {x : Str} {t : Tok} {b : Bool} (hx : x.length ≤ 100)
    (hret : ∀ v add lo h' tk', Fr h₀ L h' m → News h₀ L h' ((130, tabObj (fullT c1 c2)) :: (add ++ news)) → 130 < lo → AllLt lo news → (∀ q ∈ add, lo ≤ q.1) → RuleIn w (add ++ tc) v x b → Q v { s with heap := h', toks := tk' }) :
    wpAny (model PySem.Challenge.rw_ny0076_01.row.prog w) (ktrTop dp un gd cn cs L a ccd cl outer) (call (.ref 135) [.str x t, .bool b]) Q E s := by
  revert X; k_fill; intro X
  k_with_none
  unfold fullT at N
  have kMark := kstMark
  refine wpAny_call ?_
  k_dflt (refine' code_defC ?k1 ?k2 ?k3 ?k4 ?k5 ?kA ?kF ?kK ?k6 ?k7 ?k8 ?k9 ?kB ?kD ?_ ?c2 ?c3 ?c4; (case kA => exact rfl); (case kF => exact rfl); (case kK => assumption); (case k1 => k_asm); (case k2 => k_asm); (case k3 => k_asm); (case k4 => k_asm); (case k5 => k_asm); (case k6 => k_is); (case k7 => k_is); (case k8 => ktr_room); (case k9 => exact BindsTo.of_eq rfl); (case kB => exact rfl); (case kD => decide +kernel); (case c2 => exact rfl); (case c3 => exact rfl); (case c4 => exact rfl); k_whole; intro g' L' h' tk' cells' FG' F' N' Y' B' X' T' l1; (try k_lt l1); k_cells Y'; (try simp only [List.cons_append, List.nil_append] at N'); (try dsimp only); (try k_lift B'); (try k_fold))
  have hA := l1.2
  have l9 := l1.1
  k_steps
  rename_i o1 d1 f1 ct1 h1 tk1 l1a h2 F2 N2 f2 ct2 h3 tk3 F3 N3 l2a d3 h4 F4 N4 l3 h5 F5 N5 kF kN kT kX
  obtain ⟨oc2, vs2, t2, m2, e2, e2'⟩ := Cd.two
  refine hret (.ref f1) _ L' h5 _ kF (led4 kN) l9 hA ?_ ?_
  · simp only [List.forall_mem_cons]
    refine ⟨?_, ?_, ?_, ?_, List.forall_mem_nil _⟩ <;> (refine leN ?_; omega)
  · refine ⟨f1, _, d3, _, _, _, f2, _, _, _, rfl, mem_l (by k_mem), mem_l (by k_mem), mem_l (by k_mem), rfl, rfl, ?_⟩
    have hcell : o1.data = .cell (some (.str x t)) := d1
    clear kN N5 N4 N3 N2 N F5 F4 F3 F2 kF hret B F T X X' T' B' FG' kT kX hk hdp hun C hT
    intro p loose mean mg mb dp un gd cn cs a ccd cl outer A₀ base h₀ L m news s Q E B F X N T hk hdp hun hsub name t hname hret
    refine wpAny_call ?_
    k_dflt (refine' kla_code ?k1 ?k2 ?k3 ?k4 ?k5 ?kA ?kF ?kK ?k6 ?k7 ?k8 ?k9 ?kB ?_ ?c2 ?c3 ?c4 ?c5; (case kA => exact rfl); (case kF => exact rfl); (case kK => assumption); (case k1 => k_asm); (case k2 => k_asm); (case k3 => k_asm); (case k4 => k_asm); (case k5 => k_asm); (case k6 => (refine hsub _ (mem_l ?_); k_mem)); (case k7 => exact codeRec_news N (hsub _ (mem_r m2)) e2 e2'); (case k8 => ktr_room); (case k9 => exact rfl); (case c5 => decide); (case kB => exact locs rfl); (case c2 => exact rfl); (case c3 => exact rfl); (case c4 => exact rfl); k_whole; intro g' L' h' FG' F' N' B' X' T'; (try dsimp only); (try k_lift B'); (try k_fold))
    have hm := hsub (_, o1) (mem_l (by k_mem))
    clear hsub
    k_steps
    all_goals (rename Txt.startswith _ _ = _ => hsw; simp only [hsw, if_true, if_false, Bool.false_eq_true] at hret; exact hret _ _ _ (by assumption) (by assumption))

/-- the table of _law_rule's two lambdas: not yet filled, or filled -/
def TabSt (nw : List (Addr × Obj)) (ps : Array Value) : Prop := ps = #[] ∨ ∃ c1 c2, ps = fullT c1 c2 ∧ Codes nw c1 c2
theorem Codes.mono {nw nw' : List (Addr × Obj)} {c1 c2 : Addr} (h : Codes nw c1 c2) (hs : ∀ q ∈ nw, q ∈ nw') : Codes nw' c1 c2 := by
  obtain ⟨⟨oc, vs, t, a, b⟩, ⟨oc', vs', t', a', b'⟩⟩ := h
  exact ⟨⟨oc, vs, t, hs _ a, b⟩, ⟨oc', vs', t', hs _ a', b'⟩⟩
theorem TabSt.mono {nw nw' : List (Addr × Obj)} {ps : Array Value} (h : TabSt nw ps) (hs : ∀ q ∈ nw, q ∈ nw') : TabSt nw' ps :=
  h.imp id fun ⟨c1, c2, e, c⟩ => ⟨c1, c2, e, c.mono hs⟩
theorem AppSem.mono {w : World} {nw nw' : List (Addr × Obj)} {g : Addr} {path : Str} (h : AppSem w nw g path) (hs : ∀ q ∈ nw, q ∈ nw') : AppSem w nw' g path := by
  intro p loose mean mg mb dp un gd cn cs a ccd cl outer A₀ base h₀ L m news s Q E B F X N T hk hdp hun hsub
  exact h p loose mean mg mb dp un gd cn cs a ccd cl outer A₀ base h₀ L m news s Q E B F X N T hk hdp hun fun q hq => hsub q (hs q hq)
theorem RuleIn.mono {w : World} {nw nw' : List (Addr × Obj)} {v : Value} {path : Str} {b : Bool} (h : RuleIn w nw v path b) (hs : ∀ q ∈ nw, q ∈ nw') : RuleIn w nw' v path b := by
  obtain ⟨f, fd, df, sl, es, n, g, gfd, gd, gsl, e, m1, m2, m3, g1, g2, A⟩ := h.is
  exact ⟨f, fd, df, sl, es, n, g, gfd, gd, gsl, e, hs _ m1, hs _ m2, hs _ m3, g1, g2, A.mono hs⟩

theorem rule_call {w : World} {p : Program} {loose : List Str} {mean : ExcName → Option Value} {mg mb : Str → Option Value}
    {dp un : Nat} {gd : Option (List Code)} {cn : Str} {cs : Scope} {a : Addr} {ccd : Value} {cl : List (Str × Addr)} {outer : List Env} {A₀ : Around} {base h₀ : Heap} {L : Addr} {m : Str → Option Value} {news : List (Addr × Obj)} {s : Shared} {Q E : Value → Shared → Prop} {ps : Array Value} {tc : List (Addr × Obj)}
    (B : Below A₀ base outer h₀) (F : Fr h₀ L s.heap m) (X : (hd.heap_39 w.params).In h₀) (N : News h₀ L s.heap ((130, tabObj ps) :: news)) (T : Top p loose mean mg mb h₀) (hk : cs.kind = .function) (C : CodeHd base 134 130) (hT : OwnOff news [130]) (hS : TabSt tc ps)
    (hdp : dp + 2 < recursionLimit) (hun : un + 16 < cLine) {x : Str} {t : Tok} {b : Bool} (hx : x.length ≤ 100)
    (hret : ∀ v add ps' lo h' tk', Fr h₀ L h' m → News h₀ L h' ((130, tabObj ps') :: (add ++ news)) → 130 < lo → AllLt lo news → (∀ q ∈ add, lo ≤ q.1) → TabSt (add ++ tc) ps' → RuleIn w (add ++ tc) v x b → Q v { s with heap := h', toks := tk' }) :
    wpAny (model PySem.Challenge.rw_ny0076_01.row.prog w) (ktrTop dp un gd cn cs L a ccd cl outer) (call (.ref 135) [.str x t, .bool b]) Q E s := by
  rcases hS with rfl | ⟨c1, c2, rfl, Cd⟩
  · exact rule_call0 B F X N T hk C hT hdp hun hx fun v add c1 c2 lo h' tk' F' N' h1 h2 h3 h4 h5 => hret v add _ lo h' tk' F' N' h1 h2 h3 (.inr ⟨c1, c2, rfl, h4.mono fun _ => mem_l⟩) (h5.mono fun _ => mem_l)
  · exact rule_callH B F X N Cd T hk C hT hdp hun hx fun v add lo h' tk' F' N' h1 h2 h3 h5 => hret v add _ lo h' tk' F' N' h1 h2 h3 (.inr ⟨c1, c2, rfl, Cd.mono fun _ => mem_r⟩) h5
end Mine
end
/- Loops -/
noncomputable section
open PySem PySem.W PyProof.Rows PySem.Calls
namespace Mine
section
variable {prog : Program} {w : World} {A : Around} {E : Value → Shared → Prop} {s : Shared} {env : Env} {h₀ : Heap} {x : Str} {body : List Stmt} {Q : Flow → Shared → Prop}
/-- a turn's end: a new ledger beside the iterator -/
def GrowEnd (h₀ : Heap) (L : Addr) (J : (Str → Option Value) → List (Addr × Obj) → Prop) (it : Addr × Obj) (s₁ s₂ : Shared) : Prop :=
  ∃ h' tk m' nx, s₂ = { s₁ with heap := h', toks := tk } ∧ Fr h₀ L h' m' ∧ News h₀ L h' (it :: nx) ∧ (∀ p ∈ nx, p.1 ≠ it.1) ∧ J m' nx
def GrowPost (h₀ : Heap) (L : Addr) (J : (Str → Option Value) → List (Addr × Obj) → Prop) (it : Addr × Obj) (s₁ : Shared) (Q : Flow → Shared → Prop) (f : Flow) (s₂ : Shared) : Prop :=
  match f with
  | .ret v => Q (.ret v) s₂
  | .brk => Q .next s₂
  | _ => GrowEnd h₀ L J it s₁ s₂
theorem grow_range {r : Addr} {a₀ b₀ : Int} {t₀ u₀ v₀ : Tok} {n : Nat} {m₀ : Str → Option Value} {news : List (Addr × Obj)} (J : Nat → (Str → Option Value) → List (Addr × Obj) → Prop)
    (hh : A.handled = none) (hr : IsRange s.heap r a₀ b₀ 1 t₀ u₀ v₀) (hsmall : Builtin.Range.small a₀ b₀ 1 = true) (hn : Builtin.Range.rangeSize a₀ b₀ 1 = (n : Int)) (F : Fr h₀ env.locals s.heap m₀) (N : News h₀ env.locals s.heap news) (hj : J 0 m₀ news)
    (turn : ∀ i t m₁ nx h tk it, i < n → J i m₁ nx → (∀ p ∈ nx, p.1 ≠ it.1) → Fr h₀ env.locals h (fun y => if y = x then some (.int (a₀ + (i : Int)) t) else m₁ y) → News h₀ env.locals h (it :: nx) →
      wpAny (model prog w) A (execs body env) (GrowPost h₀ env.locals (J (i + 1)) it { s with heap := h, toks := tk } Q) E { s with heap := h, toks := tk })
    (done : ∀ m₁ nx h tk, J n m₁ nx → Fr h₀ env.locals h m₁ → News h₀ env.locals h nx → Q .next { s with heap := h, toks := tk }) :
    wpAny (model prog w) A (pyIter (.ref r)) (fun it s₂ => LoopAtV prog w A h₀ env x body Q E it s₂) E s := by
  refine wpAny_pyIter_range hr hsmall ?_
  have W : Walks prog w A s.heap.objs.size [s.heap.objs.size] [s.heap.objs.size] n (fun i v => i < n ∧ ∃ t, v = .int (a₀ + i * 1) t)
      (fun i h => IsRangeIter h s.heap.objs.size (a₀ + (i : Nat) * 1) ((n : Int) - (i : Nat)) 1) := (Walks.range hh _ a₀ 1 n).bound
  refine ⟨_, _, _, n, _, _, m₀, news, J, rfl, W, ?_, ?_, ?_, (by show IsRangeIter _ _ _ _ _; rw [hn]; simpa using Heap.get?_push_size _ rfl), F.push _, (fun p hp => ⟨Heap.get?_push_of_some _ (N p hp).1, (N p hp).2⟩), hj, ?_, ?_⟩
  · intro hm
    exact absurd F.ns.lt ((List.mem_singleton.mp hm) ▸ Nat.lt_irrefl _)
  · intro b hb
    rw [List.mem_singleton.mp hb]
    exact next_is_new F
  · intro p hp hI
    exact absurd (Heap.lt_size (N p hp).1) ((List.mem_singleton.mp hI) ▸ Nat.lt_irrefl _)
  · rintro i v m₁ nx s₁ own ⟨hh', tk', rfl⟩ hin ⟨_, t, rfl⟩ hJ hoff hown hget hall hst F₁ N₁
    have e1 : a₀ + (i : Int) * 1 = a₀ + (i : Int) := by omega
    rw [e1] at F₁
    obtain ⟨oi, hI⟩ : ∃ oi, hh'.get? s.heap.objs.size = some oi := ⟨_, hst⟩
    have hmem := hall _ (.head _) (next_is_new F) oi hI
    have N₂ : News h₀ env.locals hh' ((s.heap.objs.size, oi) :: nx) := fun p hp => by
      rcases List.mem_cons.mp hp with rfl | hp
      · exact N₁ _ (List.mem_append_left _ hmem)
      · exact N₁ p (List.mem_append_right _ hp)
    refine wpAny_mono (turn i t m₁ nx hh' tk' _ hin hJ (fun p hp q => hoff p hp (List.mem_singleton.mpr q)) F₁ N₂) (fun f s₂ p => ?_) fun _ _ e => e
    have fin : GrowEnd h₀ env.locals (J (i + 1)) (s.heap.objs.size, oi) { s with heap := hh', toks := tk' } s₂ → LoopStepU h₀ env.locals [s.heap.objs.size] own (J (i + 1)) { s with heap := hh', toks := tk' } .next s₂ := by
      rintro ⟨h', tk, m', nx', e, F', N', hne, hm⟩
      refine ⟨rfl, h', tk, m', nx', e, F', fun p hp => ?_, fun p hp hq => hne p hp (List.mem_singleton.mp hq), hm⟩
      rcases List.mem_append.mp hp with hp | hp
      · have h1 := List.mem_singleton.mp (hown p hp)
        have h2 : hh'.get? p.1 = some p.2 := hget p hp
        rw [h1, hI] at h2
        have h3 : p = (s.heap.objs.size, oi) := Prod.ext h1 (Option.some.inj h2).symm
        exact N' p (h3 ▸ .head _)
      · exact N' p (.tail _ hp)
    cases f with
    | ret v => exact .ret p
    | brk => exact .brk p
    | next => exact .next (fin p)
    | cont => exact .cont (fin p)
  · rintro h' tk m' news' F' N' _ hJ
    exact done m' news' h' tk hJ F' N'

/-- a loop over a list of the ledger's own; a turn leaves the ledger as it was -/
def StayEnd (h₀ : Heap) (L : Addr) (J : (Str → Option Value) → Prop) (led : List (Addr × Obj)) (s₁ s₂ : Shared) : Prop :=
  ∃ h' tk m', s₂ = { s₁ with heap := h', toks := tk } ∧ Fr h₀ L h' m' ∧ News h₀ L h' led ∧ J m'
def StayPost (h₀ : Heap) (L : Addr) (J : (Str → Option Value) → Prop) (led : List (Addr × Obj)) (s₁ : Shared) (Q : Flow → Shared → Prop) (f : Flow) (s₂ : Shared) : Prop :=
  match f with
  | .ret v => Q (.ret v) s₂
  | .brk => Q .next s₂
  | _ => StayEnd h₀ L J led s₁ s₂
theorem stay_list {l : Addr} {vs : List Value} {nn : Nat} {m₀ : Str → Option Value} {news : List (Addr × Obj)} (J : Nat → (Str → Option Value) → Prop)
    (hh : A.handled = none) (hl : (l, listOf vs.toArray nn) ∈ news) (F : Fr h₀ env.locals s.heap m₀) (N : News h₀ env.locals s.heap news) (hj : J 0 m₀)
    (turn : ∀ i v m₁ h tk it, vs[i]? = some v → J i m₁ → Fr h₀ env.locals h (fun y => if y = x then some v else m₁ y) → News h₀ env.locals h (it :: news) →
      wpAny (model prog w) A (execs body env) (StayPost h₀ env.locals (J (i + 1)) (it :: news) { s with heap := h, toks := tk } Q) E { s with heap := h, toks := tk })
    (done : ∀ m₁ h tk, J vs.length m₁ → Fr h₀ env.locals h m₁ → News h₀ env.locals h news → Q .next { s with heap := h, toks := tk }) :
    wpAny (model prog w) A (pyIter (.ref l)) (fun it s₂ => LoopAtV prog w A h₀ env x body Q E it s₂) E s := by
  have hol : s.heap.get? l = some (listOf vs.toArray nn) := (N _ hl).1
  have hls : s.heap.IsList l vs.toArray := ⟨_, hol, rfl, nn, rfl⟩
  have hne : l ≠ s.heap.objs.size := Nat.ne_of_lt (Heap.lt_size hol)
  refine wpAny_pyIter_list hls ?_
  have W := Walks.list (prog := prog) (w := w) hh s.heap.objs.size l hne vs.toArray
  have hlen : vs.toArray.size = vs.length := by simp
  rw [hlen] at W
  refine ⟨_, _, _, vs.length, _, _, m₀, news, (fun i m nx => nx = news ∧ J i m), rfl, W, ?_, ?_, ?_, ⟨⟨_, Heap.get?_push_size _ rfl, rfl, rfl⟩, hls.at fun o e => Heap.get?_push_of_some _ e⟩, F.push _, (fun p hp => ⟨Heap.get?_push_of_some _ (N p hp).1, (N p hp).2⟩), ⟨rfl, hj⟩, ?_, ?_⟩
  · intro hm
    rcases List.mem_cons.mp hm with e | hm
    · exact absurd F.ns.lt (e ▸ Nat.lt_irrefl _)
    · exact (N _ hl).2.1 ((List.mem_singleton.mp hm).symm)
  · intro b hb
    rw [List.mem_singleton.mp hb]
    exact next_is_new F
  · intro p hp hI
    exact absurd (Heap.lt_size (N p hp).1) ((List.mem_singleton.mp hI) ▸ Nat.lt_irrefl _)
  · rintro i v m₁ news₁ s₁ own ⟨hh', tk', rfl⟩ hin hP ⟨rfl, hJ⟩ hoff hown hget hall hst F₁ N₁
    obtain ⟨⟨oi, hoi, _⟩, _⟩ := hst
    have hmem := hall _ (.head _) (next_is_new F) oi hoi
    have hlo : hh'.get? l = some (listOf vs.toArray nn) := (N₁ _ (List.mem_append_right _ hl)).1
    have hP' : vs[i]? = some v := by simpa using hP
    have N₂ : News h₀ env.locals hh' ((s.heap.objs.size, oi) :: news₁) := fun p hp => by
      rcases List.mem_cons.mp hp with rfl | hp
      · exact N₁ _ (List.mem_append_left _ hmem)
      · exact N₁ p (List.mem_append_right _ hp)
    refine wpAny_mono (turn i v m₁ hh' tk' _ hP' hJ F₁ N₂) (fun f s₂ p => ?_) fun _ _ e => e
    have fin : StayEnd h₀ env.locals (J (i + 1)) ((s.heap.objs.size, oi) :: news₁) { s with heap := hh', toks := tk' } s₂ → LoopStepU h₀ env.locals [s.heap.objs.size] own (fun m nx => nx = news₁ ∧ J (i + 1) m) { s with heap := hh', toks := tk' } .next s₂ := by
      rintro ⟨h', tk, m', e, F', N', hm⟩
      refine ⟨rfl, h', tk, m', news₁, e, F', fun p hp => ?_, hoff, rfl, hm⟩
      rcases List.mem_append.mp hp with hp | hp
      · have h2 : hh'.get? p.1 = some p.2 := hget p hp
        rcases List.mem_cons.mp (hown p hp) with h1 | h1
        · rw [h1, hoi] at h2
          have h3 : p = (s.heap.objs.size, oi) := Prod.ext h1 (Option.some.inj h2).symm
          exact N' p (h3 ▸ .head _)
        · have h1 := List.mem_singleton.mp h1
          rw [h1, hlo] at h2
          have h3 : p = (l, listOf vs.toArray nn) := Prod.ext h1 (Option.some.inj h2).symm
          exact N' p (.tail _ (h3 ▸ hl))
      · exact N' p (.tail _ hp)
    cases f with
    | ret v => exact .ret p
    | brk => exact .brk p
    | next => exact .next (fin p)
    | cont => exact .cont (fin p)
  · rintro h' tk m' news' F' N' _ ⟨rfl, hJ⟩
    exact done m' h' tk hJ F' N'
end
theorem fr_keep2 {h₀ h : Heap} {L : Addr} {m₀ m₁ : Str → Option Value} {a b : Str} {v : Value} (hm : ∀ y, y ≠ a → y ≠ b → m₁ y = m₀ y) (F : Fr h₀ L h (fun y => if y = a then some v else m₁ y)) :
    Fr h₀ L h (fun y => if y = a then some v else if y = b then m₁ b else m₀ y) := by
  have e : (fun y => if y = a then some v else if y = b then m₁ b else m₀ y) = fun y => if y = a then some v else m₁ y := by
    funext y
    by_cases h1 : y = a
    · simp [h1]
    · by_cases h2 : y = b
      · subst h2; simp
      · simp [h1, h2, hm y h1 h2]
  rw [e]; exact F
end Mine
end
/- CRec -/
noncomputable section
open PySem PySem.W PyProof.Rows PySem.Calls
namespace Mine
def Stop (P : Prop) : Prop := P
theorem Stop.out {P : Prop} (h : Stop P) : P := h
local macro_rules | `(tactic| walk_at "exec For Name Call cons nil") => `(tactic| (k_here; (rename Fr _ _ _ _ => lF'); (with_unfolding_all refine' For_invVF lF' ?k1 ?k2 ?_; (case k1 => exact rfl); (case k2 => exact rfl); k_whole)))
local macro_rules | `(tactic| walk_at "pyIter ref") => `(tactic| refine Stop.out ?_)
local macro_rules | `(tactic| k_all) => `(tactic| exact all_ne (by assumption) (by omega))
local macro_rules | `(tactic| k_room) => `(tactic| ktr_room)
local macro_rules | `(tactic| k_units) => `(tactic| ktr_units)

theorem perm5 {a b c d e t : Addr × Obj} {tl : List (Addr × Obj)} : ∀ q ∈ t :: (a :: b :: c :: d :: e :: tl), q ∈ a :: b :: c :: d :: e :: t :: tl := fun q hp => by
  simp only [List.mem_cons] at hp ⊢
  rcases hp with h | h | h | h | h | h | h <;> simp [h]
theorem perm5' {a b c d e t : Addr × Obj} {ad tl : List (Addr × Obj)} : ∀ q ∈ a :: b :: c :: d :: e :: t :: (ad ++ tl), q ∈ t :: (ad ++ (a :: b :: c :: d :: e :: tl)) := fun q hp => by
  simp only [List.mem_cons, List.mem_append] at hp ⊢
  rcases hp with h | h | h | h | h | h | h | h <;> simp [h]

theorem rule_led {w : World} {p : Program} {loose : List Str} {mean : ExcName → Option Value} {mg mb : Str → Option Value}
    {dp un : Nat} {gd : Option (List Code)} {cn : Str} {cs : Scope} {a : Addr} {ccd : Value} {cl : List (Str × Addr)} {outer : List Env} {A₀ : Around} {base h₀ : Heap} {L : Addr} {m : Str → Option Value} {s : Shared} {Q E : Value → Shared → Prop} {ps : Array Value}
    {ia xa xb xc xd : Addr} {io oa ob oc od : Obj} {tl : List (Addr × Obj)}
    (B : Below A₀ base outer h₀) (F : Fr h₀ L s.heap m) (X : (hd.heap_39 w.params).In h₀) (N : News h₀ L s.heap ((ia, io) :: (xa, oa) :: (xb, ob) :: (xc, oc) :: (xd, od) :: (130, tabObj ps) :: tl)) (T : Top p loose mean mg mb h₀) (hk : cs.kind = .function) (C : CodeHd base 134 130)
    (hT : OwnOff tl [xa, xb, xc, xd, 130]) (hi : ia ≠ 130) (ha : xa ≠ 130) (hb : xb ≠ 130) (hc : xc ≠ 130) (hd' : xd ≠ 130) (hS : TabSt tl ps)
    (hdp : dp + 2 < recursionLimit) (hun : un + 16 < cLine) {x : Str} {t : Tok} {b : Bool} (hx : x.length ≤ 100)
    (hret : ∀ v add ps' lo h' tk', Fr h₀ L h' m → News h₀ L h' ((ia, io) :: (xa, oa) :: (xb, ob) :: (xc, oc) :: (xd, od) :: (130, tabObj ps') :: (add ++ tl)) → (∀ q ∈ add, lo ≤ q.1) → AllLt lo ((130, tabObj ps) :: (ia, io) :: (xa, oa) :: (xb, ob) :: (xc, oc) :: (xd, od) :: tl) → OwnOff (add ++ tl) [xa, xb, xc, xd, 130] → TabSt (add ++ tl) ps' → RuleIn w (add ++ tl) v x b → Q v { s with heap := h', toks := tk' }) :
    wpAny (model PySem.Challenge.rw_ny0076_01.row.prog w) (ktrTop dp un gd cn cs L a ccd cl outer) (call (.ref 135) [.str x t, .bool b]) Q E s := by
  refine rule_call (tc := tl) B F X (kst_newsOf N perm5) T hk C ?_ hS hdp hun hx fun v add ps' lo h' tk' F' N' h1 h2 h3 h4 h5 => hret v add ps' lo h' tk' F' (kst_newsOf N' perm5') h3 ⟨h1, h2⟩ ?_ h4 h5
  · intro q hq z hz
    rw [List.mem_singleton.mp hz]
    simp only [List.mem_cons] at hq
    rcases hq with rfl | rfl | rfl | rfl | rfl | hq
    · exact hi
    · exact ha
    · exact hb
    · exact hc
    · exact hd'
    · exact hT q hq 130 (by simp)
  · intro q hq z hz
    rcases List.mem_append.mp hq with hq | hq
    · have := h3 q hq
      obtain ⟨e1, e2, e3, e4, e5, e6⟩ := h2
      simp only [List.mem_cons, List.not_mem_nil, or_false] at hz
      have e2 := ltN e2
      have e3 := ltN e3
      have e4 := ltN e4
      have e5 := ltN e5
      have h1' := ltN h1
      dsimp only at e2 e3 e4 e5
      rcases hz with rfl | rfl | rfl | rfl | rfl <;> (refine Nat.ne_of_gt (Nat.lt_of_lt_of_le ?_ this); assumption)
    · exact hT q hq z hz

theorem perm4 {a b c d t : Addr × Obj} {tl : List (Addr × Obj)} : ∀ q ∈ t :: (a :: b :: c :: d :: tl), q ∈ a :: b :: c :: d :: t :: tl := fun q hp => by
  simp only [List.mem_cons] at hp ⊢
  rcases hp with h | h | h | h | h | h <;> simp [h]
theorem perm4' {a b c d t : Addr × Obj} {ad tl : List (Addr × Obj)} : ∀ q ∈ a :: b :: c :: d :: t :: (ad ++ tl), q ∈ t :: (ad ++ (a :: b :: c :: d :: tl)) := fun q hp => by
  simp only [List.mem_cons, List.mem_append] at hp ⊢
  rcases hp with h | h | h | h | h | h | h <;> simp [h]
theorem rule_led4 {w : World} {p : Program} {loose : List Str} {mean : ExcName → Option Value} {mg mb : Str → Option Value}
    {dp un : Nat} {gd : Option (List Code)} {cn : Str} {cs : Scope} {a : Addr} {ccd : Value} {cl : List (Str × Addr)} {outer : List Env} {A₀ : Around} {base h₀ : Heap} {L : Addr} {m : Str → Option Value} {s : Shared} {Q E : Value → Shared → Prop} {ps : Array Value}
    {xa xb xc xd : Addr} {oa ob oc od : Obj} {tl : List (Addr × Obj)}
    (B : Below A₀ base outer h₀) (F : Fr h₀ L s.heap m) (X : (hd.heap_39 w.params).In h₀) (N : News h₀ L s.heap ((xa, oa) :: (xb, ob) :: (xc, oc) :: (xd, od) :: (130, tabObj ps) :: tl)) (T : Top p loose mean mg mb h₀) (hk : cs.kind = .function) (C : CodeHd base 134 130)
    (hT : OwnOff tl [xa, xb, xc, xd, 130]) (ha : xa ≠ 130) (hb : xb ≠ 130) (hc : xc ≠ 130) (hd' : xd ≠ 130) (hS : TabSt tl ps)
    (hdp : dp + 2 < recursionLimit) (hun : un + 16 < cLine) {x : Str} {t : Tok} {b : Bool} (hx : x.length ≤ 100)
    (hret : ∀ v add ps' lo h' tk', Fr h₀ L h' m → News h₀ L h' ((xa, oa) :: (xb, ob) :: (xc, oc) :: (xd, od) :: (130, tabObj ps') :: (add ++ tl)) → (∀ q ∈ add, lo ≤ q.1) → AllLt lo ((130, tabObj ps) :: (xa, oa) :: (xb, ob) :: (xc, oc) :: (xd, od) :: tl) → OwnOff (add ++ tl) [xa, xb, xc, xd, 130] → TabSt (add ++ tl) ps' → RuleIn w (add ++ tl) v x b → Q v { s with heap := h', toks := tk' }) :
    wpAny (model PySem.Challenge.rw_ny0076_01.row.prog w) (ktrTop dp un gd cn cs L a ccd cl outer) (call (.ref 135) [.str x t, .bool b]) Q E s := by
  refine rule_call (tc := tl) B F X (kst_newsOf N perm4) T hk C ?_ hS hdp hun hx fun v add ps' lo h' tk' F' N' h1 h2 h3 h4 h5 => hret v add ps' lo h' tk' F' (kst_newsOf N' perm4') h3 ⟨h1, h2⟩ ?_ h4 h5
  · intro q hq z hz
    rw [List.mem_singleton.mp hz]
    simp only [List.mem_cons] at hq
    rcases hq with rfl | rfl | rfl | rfl | hq
    · exact ha
    · exact hb
    · exact hc
    · exact hd'
    · exact hT q hq 130 (by simp)
  · intro q hq z hz
    rcases List.mem_append.mp hq with hq | hq
    · have := h3 q hq
      obtain ⟨e2, e3, e4, e5, e6⟩ := h2
      simp only [List.mem_cons, List.not_mem_nil, or_false] at hz
      have e2 := ltN e2
      have e3 := ltN e3
      have e4 := ltN e4
      have e5 := ltN e5
      have h1' := ltN h1
      dsimp only at e2 e3 e4 e5
      rcases hz with rfl | rfl | rfl | rfl | rfl <;> (refine Nat.ne_of_gt (Nat.lt_of_lt_of_le ?_ this); assumption)
    · exact hT q hq z hz

local macro_rules | `(tactic| walk_at "call ref") => `(tactic| ((with_reducible show wpAny _ _ (call (Value.ref 135) _) _ _ _); refine Stop.out ?_))
local macro_rules | `(tactic| walk_at "call ref") => `(tactic| (k_here; (with_reducible show wpAny _ _ (call (Value.ref 135) _) _ _ _); k_dflt (refine' rule_led ?B ?F ?X ?N ?T ?hk ?C ?hT ?hi ?ha ?hb ?hc ?hd ?hS ?d ?u ?x ?_; (case B => k_asm); (case F => k_asm); (case X => k_asm); (case N => k_asm); (case T => k_asm); (case hk => exact rfl); (case C => assumption); (case hT => assumption); (case hi => k_ne); (case ha => k_ne); (case hb => k_ne); (case hc => k_ne); (case hd => k_ne); (case hS => assumption); (case d => ktr_room); (case u => ktr_units); (case x => (try simp only [Str.length_append] at *); omega); k_whole; intro v' ad' pt' lo' h' tk' F' N' ll' la' lo' lS' lR'; (try dsimp only); (try k_fold))))
local macro_rules | `(tactic| walk_at "call ref") => `(tactic| (k_here; (with_reducible show wpAny _ _ (call (Value.ref 135) _) _ _ _); k_dflt (refine' rule_led4 ?B ?F ?X ?N ?T ?hk ?C ?hT ?ha ?hb ?hc ?hd ?hS ?d ?u ?x ?_; (case B => k_asm); (case F => k_asm); (case X => k_asm); (case N => k_asm); (case T => k_asm); (case hk => exact rfl); (case C => assumption); (case hT => assumption); (case ha => k_ne); (case hb => k_ne); (case hc => k_ne); (case hd => k_ne); (case hS => assumption); (case d => ktr_room); (case u => ktr_units); (case x => (try simp only [Str.length_append] at *); omega); k_whole; intro v' ad' pt' lo' h' tk' F' N' ll' la' lo' lS' lR'; (try dsimp only); (try k_fold))))
inductive RulesIn (w : World) (nw : List (Addr × Obj)) : List Value → List (Str × Bool) → Prop where
  | nil : RulesIn w nw [] []
  | cons {v : Value} {r : Str × Bool} {vs : List Value} {rs : List (Str × Bool)} : RuleIn w nw v r.1 r.2 → RulesIn w nw vs rs → RulesIn w nw (v :: vs) (r :: rs)
theorem RulesIn.append {w : World} {nw : List (Addr × Obj)} {vs vs' : List Value} {rs rs' : List (Str × Bool)} (h : RulesIn w nw vs rs) (h' : RulesIn w nw vs' rs') : RulesIn w nw (vs ++ vs') (rs ++ rs') := by
  induction h with
  | nil => exact h'
  | cons a _ ih => exact .cons a ih
theorem RulesIn.mono {w : World} {nw nw' : List (Addr × Obj)} {vs : List Value} {rs : List (Str × Bool)} (h : RulesIn w nw vs rs) (hs : ∀ q ∈ nw, q ∈ nw') : RulesIn w nw' vs rs := by
  induction h with
  | nil => exact .nil
  | cons a _ ih => exact .cons (a.mono hs) ih
theorem RulesIn.length {w : World} {nw : List (Addr × Obj)} {vs : List Value} {rs : List (Str × Bool)} (h : RulesIn w nw vs rs) : vs.length = rs.length := by
  induction h with
  | nil => rfl
  | cons _ _ ih => rw [List.length_cons, List.length_cons, ih]
def turnS (nm : Str) (i : Nat) : Str := if Txt.item nm (1 + (i : Int)) == Str.ofString "0" then Str.ofString "1" else Str.ofString "0"
def ruleS (nm fig : Str) (i : Nat) : Str × Bool := (Txt.slice nm none (some (1 + (i : Int))) ++ turnS nm i, turnS nm i == fig)
def RecJ (w : World) (l2 l1 x' d' : Addr) (D : Obj) (news : List (Addr × Obj)) (m0 : Str → Option Value) (nm fig : Str) (i : Nat) (mm : Str → Option Value) (nx : List (Addr × Obj)) : Prop :=
  ∃ (vs : List Value) (kk : Nat) (tl : List (Addr × Obj)) (ps : Array Value), nx = (l2, listOf vs.toArray kk) :: (l1, listOf #[] 0) :: (x', instObj 52 d') :: (d', D) :: (130, tabObj ps) :: tl ∧ OwnOff tl [l2, l1, x', d', 130] ∧ TabSt tl ps ∧ (∀ q ∈ news, q ∈ tl) ∧
    (∀ y, y ≠ Str.ofString "k" → y ≠ Str.ofString "turned" → mm y = m0 y) ∧ vs.length = i ∧ RulesIn w tl vs ((List.range i).map (ruleS nm fig))
theorem fr_off2 {h₀ h : Heap} {L : Addr} {m₀ m₁ : Str → Option Value} {a b : Str} (hm : ∀ y, y ≠ a → y ≠ b → m₁ y = m₀ y) (F : Fr h₀ L h m₁) :
    Fr h₀ L h (fun y => if y = a then m₁ a else if y = b then m₁ b else m₀ y) := by
  have e : (fun y => if y = a then m₁ a else if y = b then m₁ b else m₀ y) = m₁ := by
    funext y
    by_cases h1 : y = a
    · simp [h1]
    · by_cases h2 : y = b
      · subst h2; simp [h1]
      · simp [h1, h2, hm y h1 h2]
  rw [e]; exact F
/-- an Entry with these rules -/
structure EntryIn (w : World) (nw : List (Addr × Obj)) (v : Value) (rs : List (Str × Bool)) : Prop where
  is : ∃ x dx es n lu lr vs kk, v = .ref x ∧ (x, instObj 52 dx) ∈ nw ∧ (dx, dictOf es n) ∈ nw ∧ (lu, listOf #[] 0) ∈ nw ∧ (lr, listOf vs.toArray kk) ∈ nw ∧ getL (Str.ofString "useragents") es = some (some (.ref lu)) ∧ getL (Str.ofString "rulelines") es = some (some (.ref lr)) ∧
    getL (Str.ofString "delay") es = some (some .none) ∧ getL (Str.ofString "req_rate") es = some (some .none) ∧ getL (Str.ofString "allowance") es = some none ∧ RulesIn w nw vs rs
theorem EntryIn.mono {w : World} {nw nw' : List (Addr × Obj)} {v : Value} {rs : List (Str × Bool)} (h : EntryIn w nw v rs) (hs : ∀ q ∈ nw, q ∈ nw') : EntryIn w nw' v rs := by
  obtain ⟨x, dx, es, n, lu, lr, vs, kk, e, m1, m2, m3, m4, g1, g2, g3, g4, g5, R⟩ := h.is
  exact ⟨x, dx, es, n, lu, lr, vs, kk, e, hs _ m1, hs _ m2, hs _ m3, hs _ m4, g1, g2, g3, g4, g5, R.mono hs⟩
def recR (nm fig : Str) : List (Str × Bool) := (List.range 16).map (ruleS nm fig) ++ [(nm, false)]
theorem led5 {h₀ h : Heap} {L : Addr} {a b c d t : Addr × Obj} {tl : List (Addr × Obj)} (N : News h₀ L h (a :: b :: c :: d :: t :: tl)) : News h₀ L h (t :: (a :: b :: c :: d :: tl)) := kst_newsOf N perm4
theorem rec_off0 {xa xb xc xd : Nat} {news : List (Addr × Obj)} (hT : OwnOff news [130]) (h : AllLt xd news) (h1 : xd ≤ xa) (h2 : xd ≤ xb) (h3 : xd ≤ xc) (h4 : xd ≤ xd) : OwnOff news [xa, xb, xc, xd, 130] := by
  intro q hq z hz
  have := kst_ltOf h q hq
  simp only [List.mem_cons, List.not_mem_nil, or_false] at hz
  rcases hz with rfl | rfl | rfl | rfl | rfl
  · exact Nat.ne_of_lt (Nat.lt_of_lt_of_le this h1)
  · exact Nat.ne_of_lt (Nat.lt_of_lt_of_le this h2)
  · exact Nat.ne_of_lt (Nat.lt_of_lt_of_le this h3)
  · exact Nat.ne_of_lt (Nat.lt_of_lt_of_le this h4)
  · exact hT q hq 130 (by simp)
theorem rec_off {xa xb xc xd : Addr} {oa ob oc od : Obj} {tl : List (Addr × Obj)} (ho : OwnOff tl [xa, xb, xc, xd, 130]) (ha : xa ≠ 130) (hb : xb ≠ 130) (hc : xc ≠ 130) (hd' : xd ≠ 130) : OwnOff ((xa, oa) :: (xb, ob) :: (xc, oc) :: (xd, od) :: tl) [130] := by
  intro q hq z hz
  rw [List.mem_singleton.mp hz]
  simp only [List.mem_cons] at hq
  rcases hq with rfl | rfl | rfl | rfl | hq
  · exact ha
  · exact hb
  · exact hc
  · exact hd'
  · exact ho q hq 130 (by simp)
theorem sub5 {a b c d : Addr × Obj} {tl : List (Addr × Obj)} : ∀ q ∈ tl, q ∈ a :: b :: c :: d :: tl := fun _ h => .tail _ (.tail _ (.tail _ (.tail _ h)))
theorem allLt_get {d : Nat} : ∀ {l : List (Addr × Obj)}, AllLt d l → ∀ p ∈ l, p.1 < d := fun h p hp => kst_ltOf h p hp
theorem rec_end {w : World} {g h' : Heap} {L' l2 l1 x' d' ia : Addr} {io D : Obj} {news ad tl : List (Addr × Obj)} {m0 m' : Str → Option Value} {nm fig : Str} {i kk lo : Nat} {vs : List Value} {v : Value} {ps pt : Array Value} {path : Str} {b : Bool} {s₁ : Shared} {tk : Nat} {Q : Flow → Shared → Prop}
    (F : Fr g L' h' m') (N : News g L' h' ((ia, io) :: (l2, listOf (vs.toArray.push v) (kk + 1)) :: (l1, listOf #[] 0) :: (x', instObj 52 d') :: (d', D) :: (130, tabObj pt) :: (ad ++ tl)))
    (ll : ∀ q ∈ ad, lo ≤ q.1) (la : AllLt lo ((130, tabObj ps) :: (ia, io) :: (l2, listOf vs.toArray kk) :: (l1, listOf #[] 0) :: (x', instObj 52 d') :: (d', D) :: tl))
    (ho : OwnOff (ad ++ tl) [l2, l1, x', d', 130]) (hS : TabSt (ad ++ tl) pt) (hR : RuleIn w (ad ++ tl) v path b) (er : ruleS nm fig i = (path, b)) (hsub : ∀ q ∈ news, q ∈ tl) (hvl : vs.length = i) (hrs : RulesIn w tl vs ((List.range i).map (ruleS nm fig)))
    (i1 : l2 ≠ ia) (i2 : l1 ≠ ia) (i3 : x' ≠ ia) (i4 : d' ≠ ia) (i5 : 130 ≠ ia) (i6 : ∀ p ∈ tl, p.1 ≠ ia) (hm : ∀ y, y ≠ Str.ofString "k" → y ≠ Str.ofString "turned" → m' y = m0 y) :
    GrowPost g L' (RecJ w l2 l1 x' d' D news m0 nm fig (i + 1)) (ia, io) s₁ Q .next { s₁ with heap := h', toks := tk } := by
  refine ⟨h', tk, m', _, rfl, F, N, ?_, vs ++ [v], kk + 1, ad ++ tl, pt, ?_, ho, hS, fun q hq => List.mem_append_right _ (hsub q hq), hm, ?_, ?_⟩
  · simp only [List.forall_mem_cons, List.forall_mem_append]
    refine ⟨i1, i2, i3, i4, i5, fun p hp => ?_, i6⟩
    exact Nat.ne_of_gt (Nat.lt_of_lt_of_le la.2.1 (ll p hp))
  · simp
  · simp [hvl]
  · rw [List.range_succ, List.map_append]
    refine (hrs.mono fun q hq => List.mem_append_right _ hq).append (.cons ?_ .nil)
    rw [er]; exact hR
theorem turn1 {nm fig : Str} {i : Nat} (h : (Txt.item nm (1 + (i : Int)) == Str.ofString "0") = true) : ruleS nm fig i = (Txt.slice nm none (some (1 + (i : Int))) ++ Str.ofString "1", Str.ofString "1" == fig) := by
  simp only [ruleS, turnS, h, if_true]
theorem turn0 {nm fig : Str} {i : Nat} (h : (Txt.item nm (1 + (i : Int)) == Str.ofString "0") = false) : ruleS nm fig i = (Txt.slice nm none (some (1 + (i : Int))) ++ Str.ofString "0", Str.ofString "0" == fig) := by
  simp only [ruleS, turnS, h, Bool.false_eq_true, if_false]
theorem record_call {w : World} {p : Program} {loose : List Str} {mean : ExcName → Option Value} {mg mb : Str → Option Value}
    {dp un : Nat} {gd : Option (List Code)} {cn : Str} {cs : Scope} {a : Addr} {ccd : Value} {cl : List (Str × Addr)} {outer : List Env} {A₀ : Around} {base h₀ : Heap} {L : Addr} {m : Str → Option Value} {news : List (Addr × Obj)} {s : Shared} {Q E : Value → Shared → Prop} {ps : Array Value}
    (B : Below A₀ base outer h₀) (F : Fr h₀ L s.heap m) (X : (hd.heap_39 w.params).In h₀) (N : News h₀ L s.heap ((130, tabObj ps) :: news)) (T : Top p loose mean mg mb h₀) (hk : cs.kind = .function) (C : CodeHd base 134 130) (hT : OwnOff news [130]) (hS : TabSt news ps)
    (hdp : dp + 4 < recursionLimit) (hun : un + 32 < cLine) {nm fig : Str} {t t2 : Tok} (hnm : nm.length = 18) (hfig : fig.length = 1)
    (hret : ∀ v nw ps' h' tk', Fr h₀ L h' m → News h₀ L h' ((130, tabObj ps') :: nw) → (∀ q ∈ news, q ∈ nw) → OwnOff nw [130] → TabSt nw ps' → EntryIn w nw v (recR nm fig) → Q v { s with heap := h', toks := tk' }) :
    wpAny (model PySem.Challenge.rw_ny0076_01.row.prog w) (ktrTop dp un gd cn cs L a ccd cl outer) (call (.ref 142) [.str nm t, .str fig t2]) Q E s := by
  revert X; k_fill; intro X
  k_with_none
  have kMark := kstMark
  refine wpAny_call ?_
  k_dflt cell_enter
  w_top off
  k_steps
  rename_i g L' _ FG' B' X' T' _ _ _ x' d' _ q1 q2 _ _ _ _ _ _ _ l1 _ q3 _ _ l2 _ q4 _ _ _ _ _ _ _ _ _ _ _ hp tk _ _ _ R1 F1 N1 _
  show wpAny _ _ _ _ _ _
  refine grow_range (n := 16) (RecJ w l2 l1 x' d' _ news _ nm fig) rfl R1 (by decide) (by decide) F1 N1 ⟨[], 0, news, ps, rfl, rec_off0 hT q1.2 (by omega) (by omega) (by omega) (by omega), hS, fun _ h => h, fun _ _ _ => rfl, rfl, .nil⟩ ?_ ?_
  · rintro i tt m1 nx hh tk it hi ⟨vs, kk, tl, ps', rfl, ho, hS', hsub, hm, hvl, hrs⟩ hit F2 N2
    have F3 := fr_keep2 hm F2
    clear F2 hm
    obtain ⟨ia, io⟩ := it
    simp only [List.forall_mem_cons] at hit
    obtain ⟨i1, i2, i3, i4, i5, i6⟩ := hit
    replace i1 := neN i1
    replace i2 := neN i2
    replace i3 := neN i3
    replace i4 := neN i4
    replace i5 := neN i5
    have hl0 : (Str.ofString "0").length = 1 := by decide +kernel
    have hl1 : (Str.ofString "1").length = 1 := by decide +kernel
    k_steps
    · refine rec_end (by assumption) (by assumption) (by assumption) (by assumption) (by assumption) (by assumption) (by assumption) (turn1 (by assumption)) hsub hvl hrs i1 i2 i3 i4 i5 i6 ?_
      intro y h1 h2
      simp [h1, h2]
    · refine rec_end (by assumption) (by assumption) (by assumption) (by assumption) (by assumption) (by assumption) (by assumption) (turn0 (by assumption)) hsub hvl hrs i1 i2 i3 i4 i5 i6 ?_
      intro y h1 h2
      simp [h1, h2]
  · rintro m1 nx hh tk ⟨vs, kk, tl, ps', rfl, ho, hS', hsub, hm, hvl, hrs⟩ F2 N2
    have F3 := fr_off2 hm F2
    clear F2 hm
    show wpAny _ _ _ _ _ _
    k_steps
    rename RuleIn _ _ _ _ _ => lR
    rename TabSt _ _ => lS
    rename OwnOff _ _ => lO
    rename News h₀ L _ _ => kN
    simp only [List.push_toArray] at kN
    refine hret _ _ _ _ _ (by assumption) (led5 kN) ?_ ?_ ?_ ?_
    · exact fun q hq => sub5 q (List.mem_append_right _ (hsub q hq))
    · exact rec_off lO (by k_ne) (by k_ne) (by k_ne) (by k_ne)
    · exact lS.mono sub5
    · refine ⟨x', d', _, _, l1, l2, _, _, rfl, by k_mem, by k_mem, by k_mem, by k_mem, rfl, rfl, rfl, rfl, rfl, ?_⟩
      refine ((hrs.mono fun q hq => List.mem_append_right _ hq).append (.cons (r := (nm, false)) ?_ .nil)).mono sub5
      exact lR
end Mine
end
/- CAll -/
noncomputable section
open PySem PySem.W PyProof.Rows PySem.Calls
namespace Mine
def appV (name path : Str) : Int := if Txt.startswith name path then (path.length : Int) + 1 else 0
def stepA (name : Str) (st : Int × Bool) (r : Str × Bool) : Int × Bool :=
  if appV name r.1 = 0 then st else if st.1 < appV name r.1 then (appV name r.1, r.2) else if appV name r.1 = st.1 ∧ st.2 = false then (st.1, r.2) else st
def foldA (name : Str) (rs : List (Str × Bool)) : Int × Bool := rs.foldl (stepA name) (-1, true)
local macro_rules | `(tactic| walk_at "exec For Name Attribute cons nil") => `(tactic| (k_here; (rename Fr _ _ _ _ => lF'); (with_unfolding_all refine' For_invVF lF' ?k1 ?k2 ?_; (case k1 => exact rfl); (case k2 => exact rfl); k_whole)))
local macro_rules | `(tactic| walk_at "pyIter ref") => `(tactic| refine Stop.out ?_)
local macro_rules | `(tactic| k_room) => `(tactic| ktr_room)
local macro_rules | `(tactic| k_units) => `(tactic| ktr_units)
local macro_rules | `(tactic| walk_at "getAttr ref") => `(tactic| (k_here; k_dflt (first
  | (refine' get_own ?k1 ?k2 ?k3 ?k4 ?k5 ?k6 ?k7 ?k8 ?k9 ?_; (case k1 => k_asm); (case k2 => k_asm); (case k3 => (refine' InstAt.of_news ?N ?h1 ?h2; (case N => k_asm); (case h1 => assumption); (case h2 => assumption))); (case k4 => k_is); (case k5 => k_is); (case k6 => k_is); (case k7 => k_is); (case k8 => assumption); (case k9 => k_handed); k_whole)
  | (refine' fn_getAttr ?hx ?hd fn_all ?g ?v ?_; (case hx => exact News.get (by k_asm) (by assumption)); (case hd => exact News.get (by k_asm) (by assumption)); (case g => assumption); (case v => rfl); k_whole))))
local macro_rules | `(tactic| walk_at "getMethod ref") => `(tactic| (k_here; k_dflt (refine' fn_getMethod ?hx ?hd fn_app ?g ?v ?_; (case hx => exact News.get (by k_asm) (by assumption)); (case hd => exact News.get (by k_asm) (by assumption)); (case g => assumption); (case v => rfl); k_whole)))
local macro_rules | `(tactic| walk_at "callWith ref") => `(tactic| (k_here; k_dflt (refine' callWith_F ?k1 ?_; (case k1 => exact FnAt.of (by k_asm) (by assumption)); k_whole)))
local macro_rules | `(tactic| walk_at "FnAt") => `(tactic| exact FnAt.of (by k_asm) (by assumption))
theorem app_led {w : World} {nw : List (Addr × Obj)} {g : Addr} {path : Str} (hA : AppSem w nw g path) {p : Program} {loose : List Str} {mean : ExcName → Option Value} {mg mb : Str → Option Value}
    {dp un : Nat} {gd : Option (List Code)} {cn : Str} {cs : Scope} {a : Addr} {ccd : Value} {cl : List (Str × Addr)} {outer : List Env} {A₀ : Around} {base h₀ : Heap} {L : Addr} {m : Str → Option Value} {news : List (Addr × Obj)} {s : Shared} {Q E : Value → Shared → Prop}
    (B : Below A₀ base outer h₀) (F : Fr h₀ L s.heap m) (X : (hd.heap_39 w.params).In h₀) (N : News h₀ L s.heap news) (T : Top p loose mean mg mb h₀) (hk : cs.kind = .function)
    (hdp : dp + 1 < recursionLimit) (hun : un + 8 < cLine) (hsub : ∀ q ∈ nw, q ∈ news) {name : Str} {t : Tok} (hname : name.length ≤ 100)
    (hret : ∀ mv t h' tk', mv = appV name path → Fr h₀ L h' m → News h₀ L h' news → Q (.int mv t) { s with heap := h', toks := tk' }) :
    wpAny (model PySem.Challenge.rw_ny0076_01.row.prog w) (ktrTop dp un gd cn cs L a ccd cl outer) (call (.ref g) [.str name t]) Q E s :=
  hA p loose mean mg mb dp un gd cn cs a ccd cl outer A₀ base h₀ L m news s Q E B F X N T hk hdp hun hsub name t hname fun t' h' tk' F' N' => hret _ t' h' tk' rfl F' N'
local macro_rules | `(tactic| walk_at "call ref") => `(tactic| (k_here; (rename AppSem _ _ _ _ => aS'); k_dflt (refine' app_led aS' ?B ?F ?X ?N ?T ?hk ?d ?u ?sb ?x ?_; (case B => k_asm); (case F => k_asm); (case X => k_asm); (case N => k_asm); (case T => k_asm); (case hk => exact rfl); (case d => ktr_room); (case u => ktr_units); (case sb => exact fun _ h => h); (case x => assumption); k_whole; intro mv' t' h' tk' em' F' N'; (try dsimp only); (try k_fold))))
def AllJ (name : Str) (rs : List (Str × Bool)) (m0 : Str → Option Value) (i : Nat) (mm : Str → Option Value) : Prop :=
  (∀ y, y ≠ Str.ofString "line" → y ≠ Str.ofString "m" → y ≠ Str.ofString "best_match" → y ≠ Str.ofString "allowance" → mm y = m0 y) ∧ (∃ tb, mm (Str.ofString "best_match") = some (.int (foldA name (rs.take i)).1 tb)) ∧ mm (Str.ofString "allowance") = some (.bool (foldA name (rs.take i)).2)
theorem fr_keepA {h₀ h : Heap} {L : Addr} {m₀ m₁ : Str → Option Value} {a b c d : Str} {u v v' : Value} (hm : ∀ y, y ≠ a → y ≠ b → y ≠ c → y ≠ d → m₁ y = m₀ y) (hc : m₁ c = some v) (hd : m₁ d = some v') (F : Fr h₀ L h (fun y => if y = a then some u else m₁ y)) :
    Fr h₀ L h (fun y => if y = a then some u else if y = c then some v else if y = d then some v' else if y = b then m₁ b else m₀ y) := by
  have e : (fun y => if y = a then some u else if y = c then some v else if y = d then some v' else if y = b then m₁ b else m₀ y) = fun y => if y = a then some u else m₁ y := by
    funext y
    by_cases h1 : y = a
    · simp [h1]
    · by_cases h2 : y = c
      · subst h2; simp [hc, h1]
      · by_cases h3 : y = d
        · subst h3; simp [hd, h1, h2]
        · by_cases h4 : y = b
          · subst h4; simp [h1, h2, h3]
          · simp [h1, h2, h3, h4, hm y h1 h4 h2 h3]
  rw [e]; exact F
theorem fr_off1 {h₀ h : Heap} {L : Addr} {m₁ : Str → Option Value} {a : Str} {v : Value} (hm : m₁ a = some v) (F : Fr h₀ L h m₁) : Fr h₀ L h (fun y => if y = a then some v else m₁ y) := by
  have e : (fun y => if y = a then some v else m₁ y) = m₁ := by
    funext y
    by_cases h1 : y = a
    · subst h1; simp [hm]
    · simp [h1]
  rw [e]; exact F
theorem RulesIn.get {w : World} {nw : List (Addr × Obj)} : ∀ {vs : List Value} {rs : List (Str × Bool)}, RulesIn w nw vs rs → ∀ {i : Nat} {v : Value}, vs[i]? = some v → ∃ r, rs[i]? = some r ∧ RuleIn w nw v r.1 r.2
  | _, _, .cons (r := r) h _, 0, v, e => ⟨r, rfl, by cases e; exact h⟩
  | _, _, .cons _ t, i + 1, v, e => t.get (i := i) (by simpa using e)
theorem foldA_take {name : Str} {rs : List (Str × Bool)} {i : Nat} {r : Str × Bool} (h : rs[i]? = some r) : foldA name (rs.take (i + 1)) = stepA name (foldA name (rs.take i)) r := by
  unfold foldA
  rw [List.take_add_one, h]
  simp
theorem all_end {name : Str} {rs : List (Str × Bool)} {g h' : Heap} {L' : Addr} {m0 m' : Str → Option Value} {led : List (Addr × Obj)} {i : Nat} {X : Int × Bool} {bm' : Int} {al' : Bool} {tb : Tok} {s₁ : Shared} {tk : Nat} {Q : Flow → Shared → Prop}
    (F : Fr g L' h' m') (N : News g L' h' led) (hf : foldA name (rs.take (i + 1)) = X) (e : X = (bm', al')) (hm : ∀ y, y ≠ Str.ofString "line" → y ≠ Str.ofString "m" → y ≠ Str.ofString "best_match" → y ≠ Str.ofString "allowance" → m' y = m0 y)
    (hb : m' (Str.ofString "best_match") = some (.int bm' tb)) (ha : m' (Str.ofString "allowance") = some (.bool al')) : StayPost g L' (AllJ name rs m0 (i + 1)) led s₁ Q .next { s₁ with heap := h', toks := tk } := by
  rw [e] at hf
  refine ⟨h', tk, m', rfl, F, N, hm, ⟨tb, ?_⟩, ?_⟩
  · rw [hf]; exact hb
  · rw [hf]; exact ha
section
variable {name : Str} {r : Str × Bool} {bm mv : Int} {al : Bool}
theorem st1 (e : mv = appV name r.1) (h1 : mv ≠ 0) (h2 : bm < mv) : stepA name (bm, al) r = (mv, r.2) := by
  subst e; simp only [stepA, if_neg h1, if_pos h2]
theorem st2 (e : mv = appV name r.1) (h1 : mv ≠ 0) (h2 : ¬ bm < mv) (_h3 : mv = bm) (h4 : al = true) : stepA name (bm, al) r = (bm, al) := by
  subst e; simp [stepA, if_neg h1, if_neg h2, h4]
theorem st3 (e : mv = appV name r.1) (h1 : mv ≠ 0) (h2 : ¬ bm < mv) (h3 : mv = bm) (h4 : al = false) : stepA name (bm, al) r = (bm, r.2) := by
  subst e; simp only [stepA, if_neg h1, if_neg h2]; rw [if_pos ⟨h3, h4⟩]
theorem st4 (e : mv = appV name r.1) (h1 : mv ≠ 0) (h2 : ¬ bm < mv) (h3 : mv ≠ bm) : stepA name (bm, al) r = (bm, al) := by
  subst e; simp only [stepA, if_neg h1, if_neg h2]; rw [if_neg fun h => h3 h.1]
theorem st5 (e : mv = appV name r.1) (h1 : mv = 0) : stepA name (bm, al) r = (bm, al) := by
  subst e; simp only [stepA, if_pos h1]
end
theorem allow_call {w : World} {p : Program} {loose : List Str} {mean : ExcName → Option Value} {mg mb : Str → Option Value}
    {dp un : Nat} {gd : Option (List Code)} {cn : Str} {cs : Scope} {a : Addr} {ccd : Value} {cl : List (Str × Addr)} {outer : List Env} {A₀ : Around} {base h₀ : Heap} {L : Addr} {m : Str → Option Value} {news : List (Addr × Obj)} {s : Shared} {Q E : Value → Shared → Prop}
    (B : Below A₀ base outer h₀) (F : Fr h₀ L s.heap m) (X : (hd.heap_39 w.params).In h₀) (N : News h₀ L s.heap news) (T : Top p loose mean mg mb h₀) (hk : cs.kind = .function)
    (hdp : dp + 4 < recursionLimit) (hun : un + 32 < cLine) {name : Str} {t : Tok} (hname : name.length ≤ 100) {x dx lr : Addr} {es : List DictEntry} {n kk : Nat} {vs : List Value} {rs : List (Str × Bool)}
    (m1 : (x, instObj 52 dx) ∈ news) (m2 : (dx, dictOf es n) ∈ news) (m3 : (lr, listOf vs.toArray kk) ∈ news) (hg : getL (Str.ofString "rulelines") es = some (some (.ref lr))) (hR : RulesIn w news vs rs)
    (hret : ∀ h' tk', Fr h₀ L h' m → News h₀ L h' news → Q (.bool (foldA name rs).2) { s with heap := h', toks := tk' }) :
    wpAny (model PySem.Challenge.rw_ny0076_01.row.prog w) (ktrTop dp un gd cn cs L a ccd cl outer) (call (.ref 49) [.ref x, .str name t]) Q E s := by
  revert X; k_fill; intro X
  k_with_none
  have kMark := kstMark
  refine wpAny_call ?_
  k_dflt cell_enter
  k_steps
  rename_i g L' _ FG' B' X' T' _ hp F1 N1
  show wpAny _ _ _ _ _ _
  refine stay_list (AllJ name rs _) rfl m3 F1 N1 ⟨fun _ _ _ _ _ => rfl, ⟨_, rfl⟩, rfl⟩ ?_ ?_
  · rintro i v m1' hh tk it hv ⟨hm, ⟨tb, hb⟩, ha⟩ F2 N2
    obtain ⟨r, hr, hI⟩ := hR.get hv
    obtain ⟨f, fd, df, sl, es', n', g', gfd, gdd, gsl, rfl, r1, r2, r3, r4, r5, r6⟩ := (hI.mono (nw' := it :: news) fun q h => .tail _ h).is
    have F3 := fr_keepA hm hb ha F2
    have hf := foldA_take (name := name) hr
    clear F2 hm hb ha hv hI hr
    generalize foldA name (rs.take i) = st at *
    obtain ⟨bm, al⟩ := st
    dsimp only at F3
    k_steps
    · exact all_end (by assumption) (by assumption) hf (st1 (by assumption) (by assumption) (by assumption)) (by intro y h1 h2 h3 h4; simp [h1, h2, h3, h4]) (by with_unfolding_all rfl) (by with_unfolding_all rfl)
    · exact all_end (by assumption) (by assumption) hf (st2 (by assumption) (by assumption) (by assumption) (by assumption) (by assumption)) (by intro y h1 h2 h3 h4; simp [h1, h2, h3, h4]) (by with_unfolding_all rfl) (by with_unfolding_all rfl)
    · exact all_end (by assumption) (by assumption) hf (st3 (by assumption) (by assumption) (by assumption) (by assumption) (by assumption)) (by intro y h1 h2 h3 h4; simp [h1, h2, h3, h4]) (by with_unfolding_all rfl) (by with_unfolding_all rfl)
    · exact all_end (by assumption) (by assumption) hf (st4 (by assumption) (by assumption) (by assumption) (by assumption)) (by intro y h1 h2 h3 h4; simp [h1, h2, h3, h4]) (by with_unfolding_all rfl) (by with_unfolding_all rfl)
    · exact all_end (by assumption) (by assumption) hf (st5 (by assumption) (by assumption)) (by intro y h1 h2 h3 h4; simp [h1, h2, h3, h4]) (by with_unfolding_all rfl) (by with_unfolding_all rfl)
  · rintro m1' hh tk ⟨hm, ⟨tb, hb⟩, ha⟩ F2 N2
    rw [hR.length, List.take_length] at ha
    have F3 := fr_off1 ha F2
    show wpAny _ _ _ _ _ _
    k_steps
    exact hret _ _ (by assumption) (by assumption)
end Mine
end
/- SetFil -/
noncomputable section
open PySem PySem.W PyProof.Rows PySem.Calls
namespace Mine
open Builtin Builtin.ObjectAttr
theorem news_new {h₀ h h' : Heap} {L D : Addr} {o : Obj} {m : Str → Option Value} {news : List (Addr × Obj)} (F : Fr h₀ L h m) (N : News h₀ L h' news) (hD : h.objs.size ≤ D) (ho : h'.get? D = some o) : News h₀ L h' ((D, o) :: news) := fun p hp => by
  rcases List.mem_cons.mp hp with rfl | hp
  · exact ⟨ho, Nat.ne_of_gt (Nat.lt_of_lt_of_le F.ns.lt hD), Heap.get?_none_of_le (Nat.le_trans F.above (Nat.le_trans (Nat.le_of_lt F.ns.lt) hD))⟩
  · exact N p hp
section
variable {prog : Program} {w : World} {A : Around} {E : Value → Shared → Prop} {s : Shared} {h₀ : Heap} {L l D : Addr} {m : Str → Option Value} {news : List (Addr × Obj)} {k : Nat} {o : Obj} {Q : Value → Shared → Prop}
theorem sf_set (F : Fr h₀ L s.heap m) (N : News h₀ L s.heap news) (hh : A.handled = none) (hl : (l, listOf #[] k) ∈ news)
    (h : ∀ D o h' tk, Fr h₀ L h' m → News h₀ L h' ((D, o) :: news) → o.cls = .type "set" → o.dict = none → (∀ c, o.data ≠ .cls c) → (∀ p ∈ news, p.1 < D) → Q (.ref D) { s with heap := h', toks := tk }) :
    wpAny (model prog w) A (call (.type "set") [.ref l]) Q E s := by
  refine PySem.call_set_list (items := #[]) (ns := []) hh ⟨_, (N _ hl).1, rfl, k, rfl⟩ IntsAre.nil (by decide) fun h' tk hS hk => ?_
  obtain ⟨o, es, ep, t, ho, hx, hd, _⟩ := hS
  have hk' : ∀ b o, s.heap.get? b = some o → h'.get? b = some o := fun b o e => hk b o (Heap.lt_size e) e
  exact h _ o h' tk (Fr.after F hk') (news_new F (News.keepsAll N hk') (Nat.le_refl _) ho) hx.1 hx.2.1 (fun c e => by rw [hd] at e; cases e) fun p hp => Heap.lt_size (N p hp).1

theorem sf_get : Slot "method_descriptor" "__get__" "method_descriptor.__get__" :=
  .of (owner := "method_descriptor") (n := "__get__") (by rw [typeLookup_type, builtinLookup_eq_fast]; kernel_rfl) (by decide +kernel) (by decide +kernel) (by decide +kernel)
    (by first | exact .inl (by decide +kernel) | exact .inr (by decide +kernel)) (by rw [isSubtype_type]; kernel_rfl)
theorem sf_noset : typeLookup (.type "method_descriptor") "__set__" = pure none := by rw [typeLookup_type, builtinLookup_eq_fast]; kernel_rfl
theorem sf_nodel : typeLookup (.type "method_descriptor") "__delete__" = pure none := by rw [typeLookup_type, builtinLookup_eq_fast]; kernel_rfl
theorem sf_entry : entryFor table "method_descriptor.__get__" = some Builtin.«method_descriptor.__get__» := entryFor_of_tree (by kernel_rfl)
theorem sf_args (a b c : Value) : argsOk "method_descriptor.__get__" ⟨[a, b, c], []⟩ := by unfold argsOk; kernel_rfl
theorem sf_owner : (".".intercalate ("set.__contains__".cutAt '.').dropLast) = "set" := by decide +kernel
theorem sf_told : Manifest.toldItsClass.contains "set.__contains__" = false := by decide +kernel
theorem sf_bind {R : Result → Shared → Prop} (hD : s.heap.get? D = some o) (hc : o.cls = .type "set")
    (h : R (.ok (.ret (.ref s.heap.objs.size))) { s with heap := s.heap.push ⟨.type "builtin_function_or_method", none, .fields #[.builtin "set.__contains__", .ref D], #[]⟩ }) :
    codeAny (model prog w) A (.call (.builtin "method_descriptor.__get__") ⟨[.builtin "set.__contains__", .ref D, .type "set"], []⟩) R s := by
  have hT : s.TypeIs (.ref D) "set" := ⟨_, hD, hc⟩
  have hT5 : s.TypeIs (.builtin "set.__contains__") "method_descriptor" := PySem.F.type_set_contains
  have f8 : isSubtype (.type "set") (.type (".".intercalate ("set.__contains__".cutAt '.').dropLast)) = pure true := by rw [sf_owner]; exact PySem.F.sub_set_set
  have f9 := sf_told
  refine codeAny_call_builtin sf_get.plain sf_entry (sf_get.check _ _ _ _ _ _ _ _ hT5 (sf_args _ _ _) ?_)
  unfold Builtin.«method_descriptor.__get__»
  repeat (any_goals (first | assumption | wp_step))
end
end Mine
end
/- SetFil2 -/
noncomputable section
open PySem PySem.W PyProof.Rows PySem.Calls
namespace Mine
open Builtin Builtin.ObjectAttr
section
variable {prog : Program} {w : World} {A : Around} {E : Value → Shared → Prop} {s : Shared} {h₀ : Heap} {L l D : Addr} {m : Str → Option Value} {news : List (Addr × Obj)} {k : Nat} {o : Obj} {Q : Value → Shared → Prop}
abbrev boundObj (D : Addr) : Obj := ⟨.type "builtin_function_or_method", none, .fields #[.builtin "set.__contains__", .ref D], #[]⟩
theorem sf_attr {expr : Bool} (F : Fr h₀ L s.heap m) (N : News h₀ L s.heap news) (hD : (D, o) ∈ news) (hc : o.cls = .type "set") (hd : o.dict = none) (hn : ∀ c, o.data ≠ .cls c)
    (h : ∀ q h', Fr h₀ L h' m → News h₀ L h' ((q, boundObj D) :: news) → (∀ p ∈ news, p.1 < q) → Q (.ref q) { s with heap := h', toks := s.toks + 1 }) :
    wpAny (model prog w) A (getAttr (.ref D) (Str.ofString "__contains__") expr) Q E s := by
  have hx := (N _ hD).1
  have T : ∀ tk, ({ s with toks := tk } : Shared).TypeIs (.ref D) "set" := fun _ => ⟨_, hx, hc⟩
  have T5 : ∀ tk, ({ s with toks := tk } : Shared).TypeIs (.builtin "set.__contains__") "method_descriptor" := fun _ => PySem.F.type_set_contains
  unfold getAttr getAttrBy
  refine wpAny_bind (wpAny_mkText (wpAny_holding (wpAny_bind (wpAny_typeOf (T _) ?_))))
  rw [PySem.F.slot_set_getattribute.lookup]
  refine wpAny_bind (wpAny_pure ?_)
  show wpAny _ _ (getAttrByItsOwn _ _ _ _ _ _) _ _ _
  unfold getAttrByItsOwn
  refine wpAny_bind (wpAny_pure (wpAny_bind (wpAny_attempt (wpAny_holding ?_))))
  have e : callGetattribute (.ref D) (.str (Str.ofString "__contains__") s.toks) (.builtin "set.__getattribute__") expr = boundAndCalled (.builtin "set.__getattribute__") (.ref D) (.str (Str.ofString "__contains__") s.toks) := by
    unfold callGetattribute
    rw [show onTheHeap (.builtin "set.__getattribute__") = false from rfl, Bool.and_false]
    rfl
  rw [e]
  unfold boundAndCalled
  rw [PySem.F.slot_set_getattribute.bind]
  refine wpAny_bind (wpAny_pure (wpAny_call (codeAny_call_builtin PySem.F.slot_set_getattribute.plain PySem.F.entry_set_ga (PySem.F.slot_set_getattribute.check _ _ _ _ _ _ _ _ (T _) (PySem.F.args_set_getattribute_2 _ _) ?_))))
  unfold Builtin.«object.__getattribute__»
  refine wpAny_bind (wpAny_pure (wpAny_bind (wpAny_pure (wpAny_bind (wpAny_typeOf (T _) ?_)))))
  refine wpAny_bind ?_
  unfold find
  rw [PySem.F.slot_set_contains.lookup]
  refine wpAny_bind (wpAny_pure (wpAny_bind ?_))
  show wpAny _ _ (specialOf (.builtin "set.__contains__") "__get__") _ _ _
  refine wpAny_specialOf (T5 _) sf_get.lookup (wpAny_bind ?_)
  show wpAny _ _ (do if ← takesStores (.builtin "set.__contains__") then pure (some _) else pure none) _ _ _
  refine wpAny_bind ?_
  unfold takesStores
  refine wpAny_bind (wpAny_specialOf (T5 _) sf_noset ?_)
  simp only [Option.isSome_none, Bool.false_eq_true, if_false]
  refine wpAny_bind (wpAny_specialOf (T5 _) sf_nodel ?_)
  refine wpAny_pure ?_
  simp only [Option.isSome_none, Bool.false_eq_true, if_false]
  refine wpAny_pure ?_
  show wpAny _ _ (ownThenClass (.ref D) _ (some (.builtin "set.__contains__")) (some (.builtin "method_descriptor.__get__"))) _ _ _
  unfold ownThenClass
  refine wpAny_bind ?_
  show wpAny _ _ (do inDict _ (← ObjectAttr.ownDict D)) _ _ _
  refine wpAny_bind ?_
  unfold ObjectAttr.ownDict
  refine wpAny_bind (wpAny_loadPart hx ?_)
  obtain ⟨oc, od, odt, osl⟩ := o
  simp only at hc hd hn
  subst hc hd
  simp only
  unfold instanceDict
  refine wpAny_bind (wpAny_loadPart hx ?_)
  dsimp only
  refine wpAny_pure ?_
  show wpAny _ _ (pure none) _ _ _
  refine wpAny_pure (wpAny_bind ?_)
  show wpAny _ _ (copiedAttributeGuard _ (.ref D)) _ _ _
  unfold copiedAttributeGuard
  rw [show ((["__module__", "__name__", "__qualname__", "__doc__", "__annotations__"] : List Str).contains (Str.ofString "__contains__")) = false from by decide +kernel]
  refine wpAny_pure ?_
  unfold byTheClass
  refine wpAny_bind (wpAny_rule (wpAny_pure ?_))
  show wpAny _ _ (bindTo (.builtin "method_descriptor.__get__") (.builtin "set.__contains__") (.ref D) (.type "set")) _ _ _
  unfold bindTo
  refine wpAny_bind (wpAny_holding (wpAny_call (sf_bind (s := { s with toks := s.toks + 1 }) hx rfl ?_)))
  refine wpAny_pure ?_
  show wpAny _ _ (handedOut (.ref _)) _ _ _
  refine wpAny_pure ?_
  exact h _ _ (F.push _) (N.push F _) fun p hp => Heap.lt_size (N p hp).1
end
end Mine
end
/- SetFil3 -/
noncomputable section
open PySem PySem.W PyProof.Rows PySem.Calls
namespace Mine
open Builtin
theorem fl_mro : mroOf (.type "filter") = pure [.type "filter", .type "object"] := by rw [mroOf_type]; kernel_rfl
theorem fl_new : typeLookup (.type "filter") "__new__" = pure (some (.builtin "filter.__new__")) := by rw [typeLookup_type, builtinLookup_eq_fast]; kernel_rfl
theorem fl_init : Slot "filter" "__init__" "object.__init__" :=
  .of (owner := "object") (n := "__init__") (by rw [typeLookup_type, builtinLookup_eq_fast]; kernel_rfl) (by decide +kernel) (by decide +kernel) (by decide +kernel)
    (by first | exact .inl (by decide +kernel) | exact .inr (by decide +kernel)) (by rw [isSubtype_type]; kernel_rfl)
theorem fl_called : TypeCalled "filter" "filter.__new__" "object.__init__" :=
  ⟨by decide +kernel, by decide +kernel, ⟨_, _, fl_mro⟩, madeBy_type fl_mro fl_new (by decide +kernel), by decide +kernel, by rw [isSubtype_type]; kernel_rfl, fl_init⟩
theorem fl_typeCall (a b : Value) : checkTypeCall "filter" ⟨[a, b], []⟩ = pure () := by kernel_rfl
theorem fl_newCall (a b : Value) : checkBuiltinCall "filter.__new__" ⟨[.type "filter", a, b], []⟩ = pure () := by kernel_rfl
theorem fl_entry : entryFor table "filter.__new__" = some Builtin.«filter.__new__» := entryFor_of_tree (by kernel_rfl)
theorem fl_sub : isSubtype (.type "filter") (.type "filter") = pure true := by rw [isSubtype_type]; kernel_rfl
abbrev itObj (l : Addr) : Obj := { cls := .type "list_iterator", data := .fields #[.ref l, .int 0 0] }
abbrev filObj (f : Value) (it : Addr) : Obj := { cls := .type "filter", data := .fields #[f, .ref it] }
theorem fl_meets (f : Value) (l : Addr) (xs : Array Value) :
    Meets (Builtin.«filter.__new__» ⟨[.type "filter", f, .ref l], []⟩) (fun _ R s => s.heap.IsList l xs ∧
      R (.ok (.ret (.ref (s.heap.push (itObj l)).objs.size))) { s with heap := (s.heap.push (itObj l)).push (filObj f s.heap.objs.size) }) :=
  .of_wp fun prog w A R s h => by
    obtain ⟨hp, g, d, tk, os⟩ := s; obtain ⟨hl1, h⟩ := h
    have hsub := fl_sub
    have hL1 : Heap.IsList (Shared.heap ⟨hp, g, d, tk, os⟩) l xs := hl1
    wp_walk using wpAny_pyIter_list hL1
    exact ⟨_, rfl, h⟩
section
variable {prog : Program} {w : World} {A : Around} {E : Value → Shared → Prop} {s : Shared} {h₀ : Heap} {L l D : Addr} {m : Str → Option Value} {news : List (Addr × Obj)} {k : Nat} {o : Obj} {Q : Value → Shared → Prop}
theorem sf_filter {f : Value} (F : Fr h₀ L s.heap m) (N : News h₀ L s.heap news) (hl : (l, listOf #[] k) ∈ news)
    (h : ∀ it z h', Fr h₀ L h' m → News h₀ L h' ((z, filObj f it) :: (it, itObj l) :: news) → (∀ p ∈ news, p.1 < it) → it < z → Q (.ref z) { s with heap := h' }) :
    wpAny (model prog w) A (call (.type "filter") [f, .ref l]) Q E s := by
  refine callType_new fl_called (by decide) (fl_typeCall _ _) (fl_newCall _ _) (fun obj => PySem.F.args_object_init_3 obj _ _) fl_entry (fl_meets f l #[]) ⟨⟨_, (N _ hl).1, rfl, k, rfl⟩, ?_⟩
  have F1 := F.push (itObj l)
  have N1 := N.push F (itObj l)
  have F2 := F1.push (filObj f s.heap.objs.size)
  have N2 := N1.push F1 (filObj f s.heap.objs.size)
  refine ⟨⟨_, Heap.get?_push_size _ rfl, rfl⟩, ?_⟩
  exact h _ _ _ F2 N2 (fun p hp => Heap.lt_size (N p hp).1) (Heap.lt_size (N1 _ (.head _)).1)
end
end Mine
end
/- SetFil4 -/
noncomputable section
open PySem PySem.W PyProof.Rows PySem.Calls
namespace Mine
open Builtin
theorem fl_next : Slot "filter" "__next__" "filter.__next__" :=
  .of (owner := "filter") (n := "__next__") (by rw [typeLookup_type, builtinLookup_eq_fast]; kernel_rfl) (by decide +kernel) (by decide +kernel) (by decide +kernel)
    (by first | exact .inl (by decide +kernel) | exact .inr (by decide +kernel)) (by rw [isSubtype_type]; kernel_rfl)
theorem fl_entryNext : entryFor table "filter.__next__" = some Builtin.«filter.__next__» := entryFor_of_tree (by kernel_rfl)
theorem fl_argsNext (a : Value) : argsOk "filter.__next__" ⟨[a], []⟩ := by unfold argsOk; kernel_rfl
theorem fl_iter : Slot "filter" "__iter__" "filter.__iter__" :=
  .of (owner := "filter") (n := "__iter__") (by rw [typeLookup_type, builtinLookup_eq_fast]; kernel_rfl) (by decide +kernel) (by decide +kernel) (by decide +kernel)
    (by first | exact .inl (by decide +kernel) | exact .inr (by decide +kernel)) (by rw [isSubtype_type]; kernel_rfl)
theorem fl_entryIter : entryFor table "filter.__iter__" = some Builtin.«dict_keyiterator.__iter__» :=
  entryFor_alias (id' := "dict_keyiterator.__iter__") (by kernel_rfl) (by first | rfl | decide +kernel | (unfold String.splitOn; simp +decide [String.splitOnAux])) (by decide +kernel) (by kernel_rfl)
theorem fl_argsIter (a : Value) : argsOk "filter.__iter__" ⟨[a], []⟩ := by unfold argsOk; kernel_rfl
theorem fl_nolen : typeLookup (.type "filter") "__len__" = pure none := by rw [typeLookup_type, builtinLookup_eq_fast]; kernel_rfl
theorem fl_nohint : typeLookup (.type "filter") "__length_hint__" = pure none := by rw [typeLookup_type, builtinLookup_eq_fast]; kernel_rfl
section
variable {prog : Program} {w : World} {A : Around} {E : Value → Shared → Prop} {s : Shared}
theorem li_stop {it l : Addr} {i : Nat} {items : Array Value} {Q : Option Value → Shared → Prop} (hh : A.handled = none)
    (hit : s.heap.IsListIter it l i) (hl : s.heap.IsList l items) (hx : items[i]? = none)
    (hQ : ∀ h' e, Heap.ExtBut it s.heap h' → (∃ o, h'.get? e = some o ∧ o.cls = .type "StopIteration") → E (.ref e) { s with heap := h' }) : wpAny (model prog w) A (callSpecial? (.ref it) (Str.ofString "__next__")) Q E s := by
  obtain ⟨o, ho, hc, hd⟩ := id hit
  obtain ⟨ol, hol, _, nl, hdl⟩ := hl
  refine wpAny_callSpecial?_slot (name := Str.ofString "__next__") hit.typeIs slot_listiter_next
    (wpAny_call_entry slot_listiter_next hit.typeIs entry_listiter_next ?_ (args_listiter_next _))
  show wpAny _ _ (field (.ref it) 0 >>= _) _ _ s
  refine wpAny_bind (wpAny_field ho hd (x := .ref l) rfl ?_)
  show wpAny _ _ (if (Value.ref l == Value.none) = true then _ else _) _ _ s
  rw [if_neg (show ¬ ((Value.ref l == Value.none) = true) from Bool.false_ne_true)]
  show wpAny _ _ (field (.ref it) 1 >>= _) _ _ s
  refine wpAny_bind (wpAny_field ho hd (x := .int i 0) rfl ?_)
  show wpAny _ _ (seqItems? (.ref l) >>= _) _ _ s
  refine wpAny_bind (wpAny_seqItems hol hdl ?_)
  simp only [Int.toNat_natCast, hx]
  refine wpAny_bind (wpAny_rule (wpAny_bind (wpAny_setField ho hd (by simp) ?_)))
  show wpAny _ _ (newExc (.type "StopIteration") [] >>= _) _ _ _
  refine wpAny_bind ?_
  simp only [newExc, newTuple]
  refine wpAny_bind (wpAny_newObj_type ?_ (by size_fits))
  refine wpAny_bind (m := firstArgMember _ _) (wpAny_of_eq (a := Value.none) (by first | rfl | (simp only [firstArgMember]; rfl)) ?_)
  refine wpAny_newObj_type ?_ (by size_fits)
  simp only [raiseNew]
  refine wpAny_bind (wpAny_handled ?_)
  rw [show A.in1.handled = none from hh]
  refine wpAny_bind (wpAny_pure (wpAny_throw ?_))
  exact hQ _ _ (((Heap.SameBut.update ..).extBut.push _).push _) ⟨_, Heap.get?_push_size _ rfl, rfl⟩

theorem fl_pyNext {z it l : Addr} {f : Value} {Q : Option Value → Shared → Prop} (hh : A.handled = none) (hz : s.heap.get? z = some (filObj f it)) (hit : s.heap.IsListIter it l 0) (hl : s.heap.IsList l #[])
    (hQ : ∀ h', Heap.ExtBut it s.heap h' → Q none { s with heap := h' }) : wpAny (model prog w) A (pyNext (.ref z)) Q E s := by
  have hT : s.TypeIs (.ref z) "filter" := ⟨_, hz, rfl⟩
  unfold pyNext
  refine wpAny_bind (wpAny_attempt (wpAny_callSpecial?_slot (name := Str.ofString "__next__") hT fl_next (wpAny_call_entry fl_next hT fl_entryNext ?_ (fl_argsNext _))))
  unfold Builtin.«filter.__next__»
  refine wpAny_bind (wpAny_pure ?_)
  refine wpAny_bind (wpAny_field hz rfl (x := f) rfl ?_)
  refine wpAny_bind (wpAny_field hz rfl (x := .ref it) rfl ?_)
  refine wpAny_bind (li_stop (A := A.in1) hh hit hl rfl fun h' e hk he => ?_)
  obtain ⟨o, ho, hc⟩ := he
  refine wpAny_bind (wpAny_isInstance (T := "StopIteration") (b := true) ⟨o, ho, hc⟩ isSubtype_stop ?_)
  exact wpAny_pure (hQ _ hk)

theorem fl_pyIter {z it : Addr} {f : Value} {Q : Value → Shared → Prop} (hz : s.heap.get? z = some (filObj f it)) (h : Q (.ref z) s) : wpAny (model prog w) A (pyIter (.ref z)) Q E s := by
  have hT : s.TypeIs (.ref z) "filter" := ⟨_, hz, rfl⟩
  refine wpAny_pyIter_slot hT fl_iter (wpAny_call_entry fl_iter hT fl_entryIter ?_ (fl_argsIter _))
  show wpAny _ _ (ret (.ref z)) _ _ s
  exact wpAny_pure ⟨_, rfl, "filter", _, hT, fl_next.lookup, h⟩

theorem fl_walks (hh : A.handled = none) (z it l : Addr) (f : Value) (h1 : z ≠ it) (h2 : l ≠ it) :
    Walks prog w A z [z, it, l] [it] 0 (fun _ _ => False) (fun _ h => h.get? z = some (filObj f it) ∧ h.IsListIter it l 0 ∧ h.IsList l #[]) where
  sub := fun b hb => by simp at hb; simp [hb]
  frame := fun _ _ _ st hk => ⟨hk z (by simp) _ st.1, st.2.1.at fun o e => hk it (by simp) o e, st.2.2.at fun o e => hk l (by simp) o e⟩
  item := fun i s Q E hi st hQ => absurd hi (Nat.not_lt_zero _)
  done := fun s Q E st hQ => fl_pyNext hh st.1 st.2.1 st.2.2 fun h' hk => hQ h' s.toks fun b o hb e => hk b o (fun x => hb (by simp [x])) e
  self := fun _ _ _ _ st hQ => fl_pyIter st.1 hQ

theorem fl_hint {z it : Addr} {f : Value} {Q : Bool → Shared → Prop} (hz : s.heap.get? z = some (filObj f it)) (h : Q true s) : wpAny (model prog w) A (Builtin.List.listLengthHint (.ref z)) Q E s := by
  have hT : s.TypeIs (.ref z) "filter" := ⟨_, hz, rfl⟩
  unfold Builtin.List.listLengthHint
  refine wpAny_bind (wpAny_specialOf hT fl_nolen ?_)
  refine wpAny_bind (wpAny_specialOf hT fl_nohint ?_)
  exact wpAny_pure h
end
end Mine
end
/- SetFil5 -/
noncomputable section
open PySem PySem.W PyProof.Rows PySem.Calls
namespace Mine
open Builtin
section
variable {prog : Program} {w : World} {A : Around} {E : Value → Shared → Prop} {s : Shared}
theorem fl_extend {R : Result → Shared → Prop} {z it l : Addr} {f : Value} (hh : A.handled = none) (hz : s.heap.get? z = some (filObj f it)) (hi : s.heap.IsListIter it l 0) (hl : s.heap.IsList l #[]) (hzi : z ≠ it) (hli : l ≠ it)
    (S : Addr) (res : Value) (c₀ : Nat) (hS : s.heap.get? S = some { cls := .type "list", data := .seq #[] c₀ }) (hSz : S ≠ z) (hSi : S ≠ it) (hSl : S ≠ l)
    (hR : ∀ h' tk c', (∀ b o, b ≠ S → b ≠ it → s.heap.get? b = some o → h'.get? b = some o) → h'.get? S = some { cls := .type "list", dict := none, data := .seq #[] c', slots := #[] } → R (.ok (.ret res)) { s with heap := h', toks := tk }) :
    wpAny (model prog w) A.in1 (Builtin.List.listExtendWith (.ref S) (.ref z) res)
      (fun fin s' => match fin with | .done f => R (.ok f) s' | .again c' => c'.quiet = true ∧ codeAny (model prog w) A c' R s') (fun e s' => R (.error e) s') s := by
  have hSf : S ∉ [z, it, l] := fun hm => by simp [hSz, hSi, hSl] at hm
  have W := (fl_walks (prog := prog) (w := w) (A := A.in1) hh z it l f hzi hli).toS
  have key : ∀ (h : Heap) (c₁ tk : Nat), (∀ b o, b ≠ S → s.heap.get? b = some o → h.get? b = some o) →
      h.get? S = some { cls := .type "list", data := .seq #[] c₁ } → codeAny (model prog w) A (.builtin "list.extend.loop" ⟨[.ref S, .ref z, res], []⟩) R { s with heap := h, toks := tk } := by
    intro h c₁ tk hk hS₁
    refine codeAny_extend_loopS W (Nat.zero_le _) S hSf res 0 0 _ #[] c₁ rfl (Nat.zero_le _) ⟨hk z _ (Ne.symm hSz) hz, hi.at fun o e => hk it o (Ne.symm hSi) e, hl.at fun o e => hk l o (Ne.symm hSl) e⟩ hS₁ (ItemsOf.nil _) fun s' acc' c' hm hS' hacc => ?_
    have he : acc' = #[] := by
      exact Array.eq_empty_of_size_eq_zero hacc.1
    subst he
    rw [Moved.eq_with hm]
    refine hR s'.heap s'.toks c' (fun b o hb hb' e => hm.heap b o (fun hmem => ?_) (hk b o hb e)) hS'
    rcases List.mem_cons.mp hmem with e' | hmem
    · exact hb e'
    · exact hb' (List.mem_singleton.mp hmem)
  unfold Builtin.List.listExtendWith
  refine wpAny_bind (wpAny_typeOf (T := "filter") ⟨_, hz, rfl⟩ ?_)
  have h1 : Builtin.List.listSameRef (.ref S) (.ref z) = false := by simp [Builtin.List.listSameRef, hSz]
  have h2 : (Value.type "filter" == Value.type "list") = false := by decide
  have h3 : (Value.type "filter" == Value.type "tuple") = false := by decide
  simp only [h1, h2, h3, Bool.or_false, Bool.false_eq_true, if_false]
  refine wpAny_bind (fl_pyIter hz ?_)
  refine wpAny_bind (wpAny_holding (fl_hint hz ?_))
  refine wpAny_ite_split (fun _ => ?_) (fun hab => absurd rfl hab)
  refine wpAny_bind (wpAny_rule ?_)
  refine wpAny_bind ?_
  show wpAny _ _ (updateSeq S (·.push .none) >>= fun _ => updateSeq S (·.pop)) _ _ _
  refine wpAny_bind (wpAny_updateSeq hS rfl ?_)
  have hS₂ := Heap.get?_update_self (Obj.mapSeq (·.push Value.none)) hS rfl
  refine wpAny_updateSeq (hz := by seq_fits) hS₂ rfl ?_
  have hS₃ := Heap.get?_update_self (Obj.mapSeq (·.pop)) hS₂ rfl
  refine wpAny_pure ⟨plainId_quiet F.plain_extend_loop _, key _ _ _ (fun b o hb e => ?_) hS₃⟩
  exact (Heap.get?_update_other _ _ (Ne.symm hb)).trans ((Heap.get?_update_other _ _ (Ne.symm hb)).trans e)

theorem fl_listInit {R : Result → Shared → Prop} {z it l : Addr} {f : Value} (hh : A.handled = none) (hz : s.heap.get? z = some (filObj f it)) (hi : s.heap.IsListIter it l 0) (hl : s.heap.IsList l #[]) (hzi : z ≠ it) (hli : l ≠ it)
    (S : Addr) (hS : s.heap.get? S = some { cls := .type "list", data := .seq #[] }) (hSz : S ≠ z) (hSi : S ≠ it) (hSl : S ≠ l)
    (hR : ∀ h' tk c', (∀ b o, b ≠ S → b ≠ it → s.heap.get? b = some o → h'.get? b = some o) → h'.get? S = some { cls := .type "list", dict := none, data := .seq #[] c', slots := #[] } → R (.ok (.ret .none)) { s with heap := h', toks := tk }) :
    wpAny (model prog w) A.in1 (Builtin.«list.__init__» ⟨[.ref S, .ref z], []⟩)
      (fun fin s' => match fin with | .done f => R (.ok f) s' | .again c' => c'.quiet = true ∧ codeAny (model prog w) A c' R s') (fun e s' => R (.error e) s') s := by
  show wpAny _ _ (do let old ← Builtin.List.listItems (.ref S); Builtin.List.listUpdate (.ref S) (fun _ => #[]); letGo old.toList.reverse; Builtin.List.listExtendWith (.ref S) (.ref z) .none) _ _ s
  refine wpAny_bind ?_
  unfold Builtin.List.listItems
  refine wpAny_bind (wpAny_seqItems hS rfl (wpAny_pure ?_))
  show wpAny _ _ (updateSeq S (fun _ => #[]) >>= fun _ => letGo (#[] : Array Value).toList.reverse >>= fun _ => Builtin.List.listExtendWith (.ref S) (.ref z) .none) _ _ s
  refine wpAny_bind (wpAny_updateSeq hS rfl ?_)
  have hS₂ := Heap.get?_update_self (Obj.mapSeq (fun _ => (#[] : Array Value))) hS rfl
  have oth : ∀ b o, b ≠ S → s.heap.get? b = some o → (s.heap.update S (Obj.mapSeq (fun _ => (#[] : Array Value)))).get? b = some o :=
    fun b o hb e => (Heap.get?_update_other _ _ (Ne.symm hb)).trans e
  refine wpAny_bind (wpAny_letGo ?_)
  refine fl_extend hh (oth z _ (Ne.symm hSz) hz) (hi.at fun o e => oth it o (Ne.symm hSi) e) (hl.at fun o e => oth l o (Ne.symm hSl) e) hzi hli S .none _ hS₂ hSz hSi hSl fun h' tk c' hk hS' => ?_
  exact hR h' tk c' (fun b o hb hb' e => hk b o hb hb' (oth b o hb e)) hS'

theorem fl_list {Q : Value → Shared → Prop} {z it l : Addr} {f : Value} (hh : A.handled = none) (hz : s.heap.get? z = some (filObj f it)) (hi : s.heap.IsListIter it l 0) (hl : s.heap.IsList l #[]) (hzi : z ≠ it) (hli : l ≠ it)
    (hQ : ∀ h' tk c', (∀ b o, b ≠ it → s.heap.get? b = some o → h'.get? b = some o) →
      h'.get? s.heap.objs.size = some { cls := .type "list", dict := none, data := .seq #[] c', slots := #[] } → Q (.ref s.heap.objs.size) { s with heap := h', toks := tk }) :
    wpAny (model prog w) A (call (.type "list") [.ref z]) Q E s := by
  obtain ⟨oi, hoi, hi2⟩ := id hi
  obtain ⟨ol, hol, hl2⟩ := id hl
  refine callType_codes (Q₁ := fun obj s₁ => obj = .ref s.heap.objs.size ∧ s₁ = { s with heap := s.heap.push { cls := .type "list", data := .seq #[] } }) F.called_list (F.typeCall_list_1 _) F.entry_list_init
    (code_list_new _ ⟨rfl, rfl⟩) fun obj s₁ h₁ => ?_
  obtain ⟨rfl, rfl⟩ := h₁
  have hS : (s.heap.push { cls := .type "list", data := .seq #[] }).get? s.heap.objs.size = some { cls := .type "list", data := .seq #[] } := Heap.get?_push_size _ rfl
  refine ⟨⟨_, hS, rfl⟩, F.args_list_init_2 _ _, fl_listInit (A := A.in1) hh (Heap.get?_push_of_some _ hz) (hi.at fun o e => Heap.get?_push_of_some _ e) (hl.at fun o e => Heap.get?_push_of_some _ e) hzi hli _ hS (Nat.ne_of_gt (Heap.lt_size hz)) (Nat.ne_of_gt (Heap.lt_size hoi)) (Nat.ne_of_gt (Heap.lt_size hol)) fun h' tk c' hk hS' => ?_⟩
  exact ⟨rfl, hQ h' tk c' (fun b o hb e => hk b o (Nat.ne_of_lt (Heap.lt_size e)) hb (Heap.get?_push_of_some _ e)) hS'⟩

variable {h₀ : Heap} {L l : Addr} {m : Str → Option Value} {news : List (Addr × Obj)} {k : Nat} {Q : Value → Shared → Prop}
theorem sf_list {z it : Addr} {f : Value} (F : Fr h₀ L s.heap m) (N : News h₀ L s.heap ((z, filObj f it) :: (it, itObj l) :: news)) (hh : A.handled = none) (hl : (l, listOf #[] k) ∈ news) (hlt : ∀ p ∈ news, p.1 ≠ it) (hzi : z ≠ it)
    (h : ∀ ln c h' tk, Fr h₀ L h' m → News h₀ L h' ((ln, listOf #[] c) :: news) → (∀ p ∈ news, p.1 < ln) → Q (.ref ln) { s with heap := h', toks := tk }) :
    wpAny (model prog w) A (call (.type "list") [.ref z]) Q E s := by
  have n1 := (N _ (.head _)).1
  have n2 := (N _ (.tail _ (.head _)))
  have n3 := (N _ (.tail _ (.tail _ hl))).1
  refine fl_list hh n1 ⟨_, n2.1, rfl, rfl⟩ ⟨_, n3, rfl, k, rfl⟩ hzi (hlt _ hl) fun h' tk c' hk hS => ?_
  have F' : Fr h₀ L h' m := ⟨F.ns.at' fun o e => hk _ o (Ne.symm n2.2.1) e, fun b o e => hk b o (fun q => by rw [q, n2.2.2] at e; cases e) (F.keep b o e), F.above⟩
  have N' : News h₀ L h' news := fun p hp => ⟨hk _ _ (hlt p hp) (N p (.tail _ (.tail _ hp))).1, (N p (.tail _ (.tail _ hp))).2⟩
  exact h _ c' h' tk F' (news_new F N' (Nat.le_refl _) hS) fun p hp => Heap.lt_size (N p (.tail _ (.tail _ hp))).1
end
end Mine
end
/- CMerge -/
noncomputable section
open PySem PySem.W PyProof.Rows PySem.Calls
namespace Mine
local macro_rules | `(tactic| k_room) => `(tactic| ktr_room)
local macro_rules | `(tactic| k_units) => `(tactic| ktr_units)
local macro_rules | `(tactic| k_all) => `(tactic| exact all_ne (by assumption) (by omega))
local macro_rules | `(tactic| walk_at "getAttr ref") => `(tactic| (k_here; k_dflt (
    (refine' get_own ?k1 ?k2 ?k3 ?k4 ?k5 ?k6 ?k7 ?k8 ?k9 ?_; (case k1 => k_asm); (case k2 => k_asm); (case k3 => (refine' InstAt.of_news ?N ?h1 ?h2; (case N => k_asm); (case h1 => k_mem); (case h2 => k_mem))); (case k4 => k_is); (case k5 => k_is); (case k6 => k_is); (case k7 => k_is); (case k8 => assumption); (case k9 => k_handed); k_whole))))
local macro_rules | `(tactic| k_mem) => `(tactic| assumption)
local macro_rules | `(tactic| walk_at "call type:set") => `(tactic| (k_here; k_dflt (refine' sf_set ?F ?N ?h ?l ?_; (case F => k_asm); (case N => k_asm); (case h => rfl); (case l => k_mem); k_whole; intro D' o' h' tk' F' N' c1 c2 c3 l1; (try k_lt l1))))
local macro_rules | `(tactic| walk_at "getAttr ref") => `(tactic| (k_here; (with_reducible show wpAny _ _ (getAttr _ (Str.ofString "__contains__") _) _ _ _); k_dflt (refine' sf_attr ?F ?N ?D ?c ?d ?n ?_; (case F => k_asm); (case N => k_asm); (case D => k_mem); (case c => assumption); (case d => assumption); (case n => assumption); k_whole; intro q' h' F' N' l1; (try k_lt l1))))
local macro_rules | `(tactic| walk_at "call type:filter") => `(tactic| (k_here; k_dflt (refine' sf_filter ?F ?N ?l ?_; (case F => k_asm); (case N => k_asm); (case l => k_mem); k_whole; intro it' z' h' F' N' l1 l2; (try k_lt l1); (try k_lt2 l2))))
local macro_rules | `(tactic| walk_at "call type:list") => `(tactic| (k_here; k_dflt (refine' sf_list ?F ?N ?h ?l ?t ?z ?_; (case F => k_asm); (case N => k_asm); (case h => rfl); (case l => k_mem); (case t => k_all); (case z => k_ne); k_whole; intro n' c' h' tk' F' N' l1; (try k_lt l1))))
theorem mg_add {prog : Program} {w : World} {A : Around} {E : Value → Shared → Prop} {s : Shared} {h₀ : Heap} {L a b : Addr} {m : Str → Option Value} {news : List (Addr × Obj)} {vs ws : List Value} {k k' : Nat} {Q : Value → Shared → Prop}
    (F : Fr h₀ L s.heap m) (N : News h₀ L s.heap news) (ha : (a, listOf vs.toArray k) ∈ news) (hb : (b, listOf ws.toArray k') ∈ news) (hz : vs.length + ws.length ≤ 1000)
    (h : ∀ D h', Fr h₀ L h' m → News h₀ L h' ((D, listOf (vs ++ ws).toArray 0) :: news) → (∀ p ∈ news, p.1 < D) → Q (.ref D) { s with heap := h' }) :
    wpAny (model prog w) A (binaryOp .Add (.ref a) (.ref b)) Q E s :=
  kmk_add_lit F N ⟨_, (N _ ha).1, rfl, k, rfl⟩ ⟨_, (N _ hb).1, rfl, k', rfl⟩ rfl h (by rw [sizeLine_eq]; simp only []; omega)
local macro_rules | `(tactic| walk_at "binaryOp Add ref ref") => `(tactic| (k_here; k_dflt (refine' mg_add ?F ?N ?a ?b ?z ?_; (case F => k_asm); (case N => k_asm); (case a => k_mem); (case b => k_mem); (case z => omega); k_whole; intro D' h' F' N' l1; (try k_lt l1))))
/-- an Entry as allowance reads it -/
structure AllowIn (w : World) (nw : List (Addr × Obj)) (v : Value) (rs : List (Str × Bool)) : Prop where
  is : ∃ x dx es n lr vs kk, v = .ref x ∧ (x, instObj 52 dx) ∈ nw ∧ (dx, dictOf es n) ∈ nw ∧ (lr, listOf vs.toArray kk) ∈ nw ∧ getL (Str.ofString "rulelines") es = some (some (.ref lr)) ∧ getL (Str.ofString "allowance") es = some none ∧ RulesIn w nw vs rs
theorem AllowIn.mono {w : World} {nw nw' : List (Addr × Obj)} {v : Value} {rs : List (Str × Bool)} (h : AllowIn w nw v rs) (hs : ∀ q ∈ nw, q ∈ nw') : AllowIn w nw' v rs := by
  obtain ⟨x, dx, es, n, lr, vs, kk, e, m1, m2, m4, g2, g5, R⟩ := h.is
  exact ⟨x, dx, es, n, lr, vs, kk, e, hs _ m1, hs _ m2, hs _ m4, g2, g5, R.mono hs⟩
theorem merge_call {w : World} {p : Program} {loose : List Str} {mean : ExcName → Option Value} {mg mb : Str → Option Value}
    {dp un : Nat} {gd : Option (List Code)} {cn : Str} {cs : Scope} {a : Addr} {ccd : Value} {cl : List (Str × Addr)} {outer : List Env} {A₀ : Around} {base h₀ : Heap} {L : Addr} {m : Str → Option Value} {news : List (Addr × Obj)} {s : Shared} {Q E : Value → Shared → Prop}
    (B : Below A₀ base outer h₀) (F : Fr h₀ L s.heap m) (X : (hd.heap_39 w.params).In h₀) (N : News h₀ L s.heap news) (T : Top p loose mean mg mb h₀) (hk : cs.kind = .function)
    (hdp : dp + 4 < recursionLimit) (hun : un + 32 < cLine) {v1 v2 : Value} {rs1 rs2 : List (Str × Bool)} (e1 : EntryIn w news v1 rs1) (e2 : EntryIn w news v2 rs2)
    (hr1 : rs1.length ≤ 100) (hr2 : rs2.length ≤ 100)
    (hret : ∀ v nw h' tk', Fr h₀ L h' m → News h₀ L h' nw → (∀ q ∈ news, q ∈ nw) → AllowIn w nw v (rs1 ++ rs2) → Q v { s with heap := h', toks := tk' }) :
    wpAny (model PySem.Challenge.rw_ny0076_01.row.prog w) (ktrTop dp un gd cn cs L a ccd cl outer) (call (.ref 63) [v1, v2]) Q E s := by
  revert X; k_fill; intro X
  k_with_none
  have kMark := kstMark
  obtain ⟨x, dx, es, n, lu, lr, vs, kk, rfl, m1, m2, m3, m4, g1, g2, g3, g4, g5, R⟩ := e1.is
  obtain ⟨x', dx', es', n', lu', lr', vs', kk', rfl, m1', m2', m3', m4', g1', g2', g3', g4', g5', R'⟩ := e2.is
  have hv1 := R.length
  have hv2 := R'.length
  refine wpAny_call ?_
  k_dflt cell_enter
  k_steps
  rename News h₀ L _ _ => kN
  refine hret _ _ _ _ (by assumption) kN (fun q hq => .tail _ (.tail _ (.tail _ (.tail _ (.tail _ (.tail _ (.tail _ (.tail _ hq)))))))) ?_
  refine ⟨_, _, _, _, _, _, _, rfl, by k_mem, by k_mem, by k_mem, rfl, rfl, ?_⟩
  exact (R.append R').mono fun q hq => .tail _ (.tail _ (.tail _ (.tail _ (.tail _ (.tail _ (.tail _ (.tail _ hq)))))))
end Mine
end
/- CBlock -/
noncomputable section
open PySem PySem.W PyProof.Rows PySem.Calls
namespace Mine
def StopW (P : Prop) : Prop := P
theorem StopW.out {P : Prop} (h : StopW P) : P := h
local macro_rules | `(tactic| walk_at "exec While Compare cons nil") => `(tactic| refine StopW.out ?_)
def BlkP (low high : Int) (sz : Int) : Prop := 0 < sz ∧ sz ≤ 65536 ∧ ∃ j : Nat, j ≤ 16 ∧ sz = 2 ^ j ∧ ∀ i < j, low / 2 ^ i ≠ high / 2 ^ i
def IsBlk (low high sz : Int) : Prop := ∃ j : Nat, j ≤ 16 ∧ sz = 2 ^ j ∧ low / 2 ^ j = high / 2 ^ j ∧ ∀ i < j, low / 2 ^ i ≠ high / 2 ^ i
theorem blk_turn {low high sz : Int} {j : Nat} (hl0 : 0 ≤ low) (hl1 : low < 65536) (hh0 : 0 ≤ high) (hh1 : high < 65536) (_hz : 0 < sz) (hj : j ≤ 16) (e : sz = 2 ^ j) (hne : ∀ i < j, low / 2 ^ i ≠ high / 2 ^ i) (hq : low / sz ≠ high / sz) : BlkP low high (2 * sz) := by
  have hj' : j < 16 := by
    rcases Nat.lt_or_ge j 16 with h | h
    · exact h
    · have : j = 16 := by omega
      subst this
      have e2 : sz = 65536 := by rw [e]; decide
      rw [e2] at hq
      exfalso; omega
  have e1 : 2 * sz = 2 ^ (j + 1) := by rw [e, Int.pow_succ]; omega
  have hpos : (0 : Int) < 2 ^ (j + 1) := Int.pow_pos (by decide)
  refine ⟨by rw [e1]; exact hpos, ?_, j + 1, hj', e1, fun i hi => ?_⟩
  · rw [e1]
    have h3 : (2 : Nat) ^ (j + 1) ≤ 2 ^ 16 := Nat.pow_le_pow_right (by decide) hj'
    have h4 : ((2 ^ (j + 1) : Nat) : Int) ≤ ((2 ^ 16 : Nat) : Int) := Int.ofNat_le.mpr h3
    rw [Int.natCast_pow] at h4
    exact h4
  · rcases Nat.lt_or_ge i j with h | h
    · exact hne i h
    · have : i = j := by omega
      subst this
      rw [← e]; exact hq
theorem block_call {w : World} {p : Program} {loose : List Str} {mean : ExcName → Option Value} {mg mb : Str → Option Value}
    {dp un : Nat} {gd : Option (List Code)} {cn : Str} {cs : Scope} {a : Addr} {ccd : Value} {cl : List (Str × Addr)} {outer : List Env} {A₀ : Around} {base h₀ : Heap} {L : Addr} {m : Str → Option Value} {news : List (Addr × Obj)} {s : Shared} {Q E : Value → Shared → Prop}
    (B : Below A₀ base outer h₀) (F : Fr h₀ L s.heap m) (X : (hd.heap_39 w.params).In h₀) (N : News h₀ L s.heap news) (T : Top p loose mean mg mb h₀) (hk : cs.kind = .function)
    (hdp : dp + 1 < recursionLimit) (hun : un + 8 < cLine) {low high : Int} {t t2 : Tok} (hl0 : 0 ≤ low) (hl1 : low < 65536) (hh0 : 0 ≤ high) (hh1 : high < 65536)
    (hret : ∀ sz t h' tk', Fr h₀ L h' m → News h₀ L h' news → IsBlk low high sz → Q (.int sz t) { s with heap := h', toks := tk' }) :
    wpAny (model PySem.Challenge.rw_ny0076_01.row.prog w) (ktrTop dp un gd cn cs L a ccd cl outer) (call (.ref 149) [.int low t, .int high t2]) Q E s := by
  revert X; k_fill; intro X
  k_with_none
  have kMark := kstMark
  refine wpAny_call ?_
  k_dflt cell_enter
  k_steps
  show wpAny _ _ _ _ _ _
  rename Fr _ _ _ _ => F1
  rename News _ _ _ _ => N1
  refine' ksw_while (σ := Int × Tok) (fun _ => news) (fun c => [(Str.ofString "size", .int c.1 c.2)]) (fun _ => True) [] (fun c => BlkP low high c.1) (fun c => (65536 - c.1).toNat) (1, ?tk) F1 N1 trivial ?h1 ?h2 ?h3
  case h1 =>
    refine List.forall_mem_cons.mpr ⟨?_, List.forall_mem_nil _⟩
    with_unfolding_all rfl
  case h2 => exact ⟨Int.zero_lt_one, by show (1 : Int) ≤ 65536; decide, 0, by decide, rfl, fun i hi => absurd hi (Nat.not_lt_zero _)⟩
  case h3 =>
    rintro ⟨sz, ts⟩ u h tk - ⟨hz0, hz1, j, hj, e, hne⟩ F2 N2
    dsimp only [kstB] at F2
    dsimp only at hz0 hz1 e
    have fd : ∀ x : Int, x.fdiv sz = x / sz := fun x => Int.fdiv_eq_ediv_of_nonneg x (Int.le_of_lt hz0)
    k_steps
    · rename ((_ : Int) ≠ _) => hq
      rw [fd, fd] at hq
      have hP := blk_turn hl0 hl1 hh0 hh1 hz0 hj e hne hq
      refine' ksw_end (2 * sz, ?tq) (by assumption) (by assumption) (fun _ h => h) trivial ?h1 ?h2 hP ?h3
      case h1 =>
        refine List.forall_mem_cons.mpr ⟨?_, List.forall_mem_nil _⟩
        with_unfolding_all rfl
      case h2 =>
        intro z h2 h3
        simp only [List.forall_mem_cons, List.not_mem_nil, false_implies, implies_true, and_true, ne_eq] at h2
        simp [h2]
      case h3 =>
        have := hP.2.1
        dsimp only
        omega
    · rename ((_ : Int) = _) => hq
      rw [fd, fd, e] at hq
      exact hret _ _ _ _ (by assumption) (by assumption) ⟨j, hj, e, hq, hne⟩
end Mine
end
/- CNum -/
noncomputable section
open PySem PySem.W PyProof.Rows PySem.Calls
namespace Mine
theorem num_call {w : World} {p : Program} {loose : List Str} {mean : ExcName → Option Value} {mg mb : Str → Option Value}
    {dp un : Nat} {gd : Option (List Code)} {cn : Str} {cs : Scope} {a : Addr} {ccd : Value} {cl : List (Str × Addr)} {outer : List Env} {A₀ : Around} {base h₀ : Heap} {L : Addr} {m : Str → Option Value} {news : List (Addr × Obj)} {s : Shared} {Q E : Value → Shared → Prop}
    (B : Below A₀ base outer h₀) (F : Fr h₀ L s.heap m) (X : (hd.heap_39 w.params).In h₀) (N : News h₀ L s.heap news) (T : Top p loose mean mg mb h₀) (hk : cs.kind = .function)
    (hdp : dp + 1 < recursionLimit) (hun : un + 8 < cLine) {l : Addr} {vs : List Value} {ns : List Int} (hl : base.IsList l vs.toArray) (hi : IntsAre vs ns) (hn : ns.length ≤ 63)
    (hret : ∀ ln vs ns c h' tk', Fr h₀ L h' m → News h₀ L h' ((ln, listOf (List.toArray vs) c) :: news) → IntsAre vs ns → ns.length = 5 → (∀ p ∈ news, p.1 < ln) → Q (.ref ln) { s with heap := h', toks := tk' }) :
    wpAny (model PySem.Challenge.rw_ny0076_01.row.prog w) (ktrTop dp un gd cn cs L a ccd cl outer) (call (.ref 114) [.ref l]) Q E s := by
  revert X; k_fill; intro X
  k_with_none
  have kMark := kstMark
  k_with "pyIter ref" => k_state (fun _ numbers => numbers.length = 5) "numbers"
  refine wpAny_call ?_
  k_dflt cell_enter
  k_steps
  exact hret _ _ _ _ _ _ (by assumption) (by assumption) (by assumption) (by assumption) (by assumption)
end Mine
end
/- CReply -/
noncomputable section
open PySem PySem.W PyProof.Rows PySem.Calls
namespace Mine
theorem two_item {prog : Program} {w : World} {A : Around} {E : Value → Shared → Prop} {s : Shared} {h₀ : Heap} {L l : Addr} {news : List (Addr × Obj)} {value slice : PySem.Expr} {a b : Str} {ta tb u : Tok} {k : Nat} {i : Int} {Q : Value → Shared → Prop}
    (N : News h₀ L s.heap news) (hl : (l, listOf #[.str a ta, .str b tb] k) ∈ news) (h0 : 0 ≤ i) (h1 : i < 2) (ha : a.length ≤ 1) (hb : b.length ≤ 1) (h : ∀ x t, x = (if i = 0 then a else b) → x.length ≤ 1 → Q (.str x t) s)
    (hs : subscripted slice false (.ref l) (.int i u) = operate [.ref l, .int i u] (getItem (.ref l) (.int i u))) : wpAny (model prog w) A (subscriptTail value slice (.ref l) (.int i u)) Q E s := by
  have hL : s.heap.IsList l [Value.str a ta, .str b tb].toArray := ⟨_, (N _ hl).1, rfl, k, rfl⟩
  have : i = 0 ∨ i = 1 := by omega
  rcases this with rfl | rfl
  · exact item_litK hL (by decide) (by decide) rfl (h a ta rfl ha) hs
  · exact item_litK hL (by decide) (by decide) rfl (h b tb rfl hb) hs
theorem fm2 (x : Int) : 0 ≤ x.fmod 2 ∧ x.fmod 2 < 2 := by
  rw [Int.fmod_eq_emod_of_nonneg x (by decide)]; omega
local macro_rules | `(tactic| walk_at "subscriptTail") => `(tactic| (k_here; (with_reducible show wpAny _ _ (subscriptTail _ _ (Value.ref _) (Value.int _ _)) _ _ _); (with_unfolding_all refine' two_item ?N ?l ?a ?b ?la ?lb ?_ ?hs; (case N => k_asm); (case l => k_mem); (case a => exact (fm2 _).1); (case b => exact (fm2 _).2); (case la => decide +kernel); (case lb => decide +kernel); (case hs => with_unfolding_all rfl); k_whole; intro fx ft hfx hfl)))
theorem fm3 (x : Int) : 0 ≤ x.fmod 3 ∧ x.fmod 3 < 3 := by
  rw [Int.fmod_eq_emod_of_nonneg x (by decide)]; omega
theorem fm4 (x : Int) : 0 ≤ x.fmod 4 ∧ x.fmod 4 < 4 := by
  rw [Int.fmod_eq_emod_of_nonneg x (by decide)]; omega
theorem fm65536 (x : Int) : 0 ≤ x.fmod 65536 ∧ x.fmod 65536 < 65536 := by
  rw [Int.fmod_eq_emod_of_nonneg x (by decide)]; omega
theorem mul3_len (x : Int) : (Txt.mul (Str.ofString "0") (x.fmod 3)).length ≤ 2 := by
  have := fm3 x
  have h : x.fmod 3 = 0 ∨ x.fmod 3 = 1 ∨ x.fmod 3 = 2 := by omega
  rcases h with h | h | h <;> rw [h] <;> decide +kernel
theorem port_len (x : Int) : (Str.ofString (toString (x.fmod 65536))).length ≤ 6 := by
  have := fm65536 x
  rw [PySem.ofString_length]
  exact int_text_length_le10 (a := x.fmod 65536) (k := 5) (by decide) (by omega)
def markT (n : Int) : Str := Txt.item (Str.ofString "|!~x") ((n.fdiv 65536).fmod 4)
def extraT (n : Int) : Str := if ((n.fdiv 65536).fdiv 4).fmod 2 = 0 then Str.ofString "" else Str.ofString "2"
def portT (n : Int) : Str := Txt.mul (Str.ofString "0") (((n.fdiv 65536).fdiv 8).fmod 3) ++ Str.ofString (toString (n.fmod 65536))
def replyT (n : Int) : Str := Str.ofString "229 Go (" ++ (markT n ++ extraT n) ++ (markT n ++ extraT n) ++ markT n ++ portT n ++ markT n ++ Str.ofString ") (" ++ markT n ++ Str.ofString ")"
theorem add_s {prog : Program} {w : World} {A : Around} {E : Value → Shared → Prop} {s : Shared} {x y : Str} {t u : Tok} {Q : Value → Shared → Prop} (hs : x.length + y.length ≤ 1000) (h : ∀ t' k, Q (.str (x ++ y) t') { s with toks := k }) : wpAny (model prog w) A (binaryOp .Add (.str x t) (.str y u)) Q E s :=
  KOpn.add (Nat.le_trans hs (by decide)) fun t' k _ => h t' k
local macro_rules | `(tactic| walk_at "binaryOp Add str str") => `(tactic| (k_here; (with_reducible show wpAny _ _ (binaryOp Operator.Add (Value.str _ _) (Value.str _ _)) _ _ _); (refine add_s ?z ?_; (case z => ((try simp only [PySem.Str.length_append]); omega))); intro _ _))
theorem reply_call {w : World} {p : Program} {loose : List Str} {mean : ExcName → Option Value} {mg mb : Str → Option Value}
    {dp un : Nat} {gd : Option (List Code)} {cn : Str} {cs : Scope} {a : Addr} {ccd : Value} {cl : List (Str × Addr)} {outer : List Env} {A₀ : Around} {base h₀ : Heap} {L : Addr} {m : Str → Option Value} {news : List (Addr × Obj)} {s : Shared} {Q E : Value → Shared → Prop}
    (B : Below A₀ base outer h₀) (F : Fr h₀ L s.heap m) (X : (hd.heap_39 w.params).In h₀) (N : News h₀ L s.heap news) (T : Top p loose mean mg mb h₀) (hk : cs.kind = .function)
    (hdp : dp + 1 < recursionLimit) (hun : un + 8 < cLine) {n : Int} {t : Tok}
    (hret : ∀ t h' tk', Fr h₀ L h' m → News h₀ L h' news → Q (.str (replyT n) t) { s with heap := h', toks := tk' }) :
    wpAny (model PySem.Challenge.rw_ny0076_01.row.prog w) (ktrTop dp un gd cn cs L a ccd cl outer) (call (.ref 121) [.int n t]) Q E s := by
  revert X; k_fill; intro X
  k_with_none
  have kMark := kstMark
  have hl1 := mul3_len ((n.fdiv 65536).fdiv 8)
  have hl2 := port_len n
  have hl3 : (Txt.item (Str.ofString "|!~x") ((n.fdiv 65536).fmod 4)).length = 1 := rfl
  have hc1 : (Str.ofString "229 Go (").length = 8 := by decide +kernel
  have hc2 : (Str.ofString ") (").length = 3 := by decide +kernel
  have hc3 : (Str.ofString ")").length = 1 := by decide +kernel
  refine wpAny_call ?_
  k_dflt cell_enter
  k_steps
  rename @Eq Str _ _ => hfx
  subst hfx
  exact hret _ _ _ (by assumption) (kst_newsOf (by assumption) fun _ h => List.Mem.tail _ h)
end Mine
end
/- TextR -/
noncomputable section
open PySem PySem.W PyProof.Rows PySem.Calls PySem.NumText
namespace Mine
def mkS (l : List Nat) : Str := ⟨l.toArray⟩
theorem mkS_app (a b : List Nat) : mkS a ++ mkS b = mkS (a ++ b) := Str.ext' (by show a.toArray ++ b.toArray = (a ++ b).toArray; simp)
theorem mkS_list (a : List Nat) : (mkS a).cps.toList = a := rfl
theorem mkS_len (a : List Nat) : (mkS a).length = a.length := by show a.toArray.size = _; simp
theorem mkS_of {x : Str} {l : List Nat} (h : x.cps.toList = l) : x = mkS l := by subst h; exact Str.ext' (by simp [mkS])
theorem mkS_getD (a : List Nat) (v : Nat) : (mkS a).cps.getD v 0 = a.getD v 0 := by simp [mkS, Array.getD, List.getD_eq_getElem?_getD]; split <;> simp_all
def markN (n : Int) : Nat := if (n.fdiv 65536).fmod 4 = 0 then 124 else if (n.fdiv 65536).fmod 4 = 1 then 33 else if (n.fdiv 65536).fmod 4 = 2 then 126 else 120
theorem markN_is (n : Int) : markN n = 124 ∨ markN n = 33 ∨ markN n = 126 ∨ markN n = 120 := by
  unfold markN
  split
  · exact .inl rfl
  · split
    · exact .inr (.inl rfl)
    · split
      · exact .inr (.inr (.inl rfl))
      · exact .inr (.inr (.inr rfl))
theorem markT_eq (n : Int) : markT n = mkS [markN n] := by
  unfold markT markN
  have := fm4 (n.fdiv 65536)
  have h : (n.fdiv 65536).fmod 4 = 0 ∨ (n.fdiv 65536).fmod 4 = 1 ∨ (n.fdiv 65536).fmod 4 = 2 ∨ (n.fdiv 65536).fmod 4 = 3 := by omega
  rcases h with h | h | h | h <;> rw [h] <;> decide +kernel
def extraL (n : Int) : List Nat := if ((n.fdiv 65536).fdiv 4).fmod 2 = 0 then [] else [50]
theorem extraT_eq (n : Int) : extraT n = mkS (extraL n) := by
  unfold extraT extraL
  split <;> decide +kernel
def portL (n : Int) : List Nat := List.replicate (((n.fdiv 65536).fdiv 8).fmod 3).toNat 48 ++ (Nat.toDigits 10 (n.fmod 65536).toNat).map Char.toNat
theorem zeros_eq (n : Int) : Txt.mul (Str.ofString "0") (((n.fdiv 65536).fdiv 8).fmod 3) = mkS (List.replicate (((n.fdiv 65536).fdiv 8).fmod 3).toNat 48) := by
  have := fm3 ((n.fdiv 65536).fdiv 8)
  have h : ((n.fdiv 65536).fdiv 8).fmod 3 = 0 ∨ ((n.fdiv 65536).fdiv 8).fmod 3 = 1 ∨ ((n.fdiv 65536).fdiv 8).fmod 3 = 2 := by omega
  rcases h with h | h | h <;> rw [h] <;> decide +kernel
theorem portT_eq (n : Int) : portT n = mkS (portL n) := by
  unfold portT portL
  rw [zeros_eq, ← mkS_app]
  congr 1
  have h := fm65536 n
  have e : n.fmod 65536 = (((n.fmod 65536).toNat : Nat) : Int) := by omega
  refine mkS_of ?_
  conv => lhs; rw [e]
  exact KIN.signs_num _
theorem portL_digits (n : Int) : AllDigits (portL n) := by
  intro c hc
  rcases List.mem_append.mp hc with hc | hc
  · have := (List.mem_replicate.mp hc).2
    omega
  · obtain ⟨ch, hch, e⟩ := List.mem_map.mp hc
    have r := digit_range (Nat.isDigit_of_mem_toDigits (by decide) (by decide) hch)
    rw [← e]
    exact r
theorem portL_ne (n : Int) : portL n ≠ [] := by
  intro e
  have h := (List.append_eq_nil_iff.mp e).2
  have h2 := List.map_eq_nil_iff.mp h
  exact Nat.toDigits_ne_nil h2
theorem foldl_zeros : ∀ z : Nat, (List.replicate z 48).foldl (fun acc c => acc * 10 + (c - 48)) 0 = 0
  | 0 => rfl
  | z + 1 => by rw [List.replicate_succ, List.foldl_cons]; exact foldl_zeros z
theorem portT_len (n : Int) : (portT n).length ≤ 8 := by
  unfold portT
  rw [Str.length_append]
  have h1 := mul3_len ((n.fdiv 65536).fdiv 8)
  have h2 := port_len n
  omega
theorem port_reads (n : Int) : PySem.intText? (portT n) = some (n.fmod 65536) := by
  have h := fm65536 n
  have e := intText_digits (x := portT n) (by rw [portT_eq, mkS_list]; exact portL_digits n) (by rw [portT_eq, mkS_list]; exact portL_ne n) (Nat.le_trans (portT_len n) (by decide))
  rw [e]
  congr 1
  rw [portT_eq, mkS_list]
  have e2 : digitsVal (portL n) = (n.fmod 65536).toNat := by
    unfold portL digitsVal
    rw [List.foldl_append, foldl_zeros]
    exact KIN.val_back _
  rw [e2]
  omega

theorem find_at {a b : List Nat} {c : Nat} {i : Nat} (hi : i ≤ a.length) (hn : ∀ v, i ≤ v → v < a.length → a.getD v 0 ≠ c) : Txt.find3 (mkS (a ++ c :: b)) ⟨#[c]⟩ (i : Int) = (a.length : Int) := by
  have hl : (mkS (a ++ c :: b)).length = a.length + (b.length + 1) := by rw [mkS_len]; simp
  have hf : fromIndex (mkS (a ++ c :: b)).length (i : Int) = i := by unfold fromIndex; rw [if_neg (by omega)]; omega
  have hg : ∀ v, v < a.length → (mkS (a ++ c :: b)).cps.getD v 0 = a.getD v 0 := fun v hv => by
    rw [mkS_getD, List.getD_eq_getElem?_getD, List.getD_eq_getElem?_getD, List.getElem?_append_left hv]
  have hc : (mkS (a ++ c :: b)).cps.getD a.length 0 = c := by
    rw [mkS_getD, List.getD_eq_getElem?_getD, List.getElem?_append_right (Nat.le_refl _)]; simp
  rcases StrLaws.find3_spec (mkS (a ++ c :: b)) c (i : Int) with ⟨_, h⟩ | ⟨k, e, h1, h2, h3, h4⟩
  · rw [hf] at h
    exact absurd hc (h a.length hi (by omega))
  · rw [hf] at h1 h4
    rw [e]
    rcases Nat.lt_trichotomy k a.length with h | h | h
    · rw [hg k h] at h3
      exact absurd h3 (hn k h1 h)
    · rw [h]
    · exact absurd hc (h4 a.length hi h)
theorem find_eq (x y : Str) : Txt.find x y = Txt.find3 x y ((0 : Nat) : Int) := rfl
theorem slice_mid (a b c : List Nat) (i j : Int) (hi : i = a.length) (hj : j = i + b.length) : Txt.slice (mkS (a ++ (b ++ c))) (some i) (some j) = mkS b := by
  have h := eq_of_beq (slice_closes (x := mkS (a ++ (b ++ c))) (i := i) (j := j) (by rw [mkS_list]; simp; omega))
  rw [h, mkS_list]
  show mkS _ = _
  have e1 : i.toNat = a.length := by omega
  have e2 : (j - i).toNat = b.length := by omega
  rw [e1, e2, List.drop_left, List.take_left]
theorem slice_to (a b : List Nat) (j : Int) (hj : j = a.length) : Txt.slice (mkS (a ++ b)) none (some j) = mkS a := by
  have h := eq_of_beq (slice_closes_to (x := mkS (a ++ b)) (j := j) (by rw [mkS_list]; simp; omega))
  rw [h, mkS_list]
  show mkS _ = _
  have e2 : (j - 0).toNat = a.length := by omega
  rw [e2, show ((0 : Int).toNat) = 0 from rfl, List.drop_zero, List.take_left]
theorem item_mid (a b : List Nat) (c : Nat) (i : Int) (hi : i = a.length) : Txt.item (mkS (a ++ c :: b)) i = mkS [c] := by
  refine item_meets (by omega) ?_
  have e1 : i.toNat = a.length := by omega
  rw [e1]
  show (a ++ c :: b).toArray[a.length]? = some c
  simp
/-- a list by its parts between c's -/
noncomputable def gl (c : Nat) : List (List Nat) → List Nat
  | [] => []
  | [x] => x
  | x :: r => x ++ c :: gl c r
theorem gl_cons (c : Nat) (x : List Nat) : ∀ {r : List (List Nat)}, r ≠ [] → gl c (x :: r) = x ++ c :: gl c r
  | [], h => absurd rfl h
  | _ :: _, _ => rfl
theorem join_gl (c : Nat) : ∀ ps : List Str, (Str.join ⟨#[c]⟩ ps).cps.toList = gl c (ps.map fun p => p.cps.toList)
  | [] => rfl
  | [x] => rfl
  | x :: y :: r => by
    have ih := join_gl c (y :: r)
    show ((x ++ ⟨#[c]⟩ ++ Str.join ⟨#[c]⟩ (y :: r)).cps).toList = x.cps.toList ++ c :: gl c ((y :: r).map fun p => p.cps.toList)
    rw [← ih, Str.cps_append, Str.cps_append]
    simp
theorem app_free {c : Nat} : ∀ {x y a b : List Nat}, c ∉ x → c ∉ y → x ++ c :: a = y ++ c :: b → x = y ∧ a = b
  | [], [], _, _, _, _, e => ⟨rfl, (List.cons.inj e).2⟩
  | [], y :: ys, _, _, _, hy, e => absurd ((List.cons.inj e).1 ▸ List.mem_cons_self) hy
  | x :: xs, [], _, _, hx, _, e => absurd ((List.cons.inj e).1 ▸ List.mem_cons_self) hx
  | x :: xs, y :: ys, a, b, hx, hy, e => by
    obtain ⟨e1, e2⟩ := List.cons.inj e
    obtain ⟨e3, e4⟩ := app_free (fun h => hx (List.mem_cons_of_mem _ h)) (fun h => hy (List.mem_cons_of_mem _ h)) e2
    exact ⟨by rw [e1, e3], e4⟩
theorem free_not {c : Nat} {x y b : List Nat} (hx : c ∉ x) (e : x = y ++ c :: b) : False := hx (by rw [e]; simp)
theorem gl_inj {c : Nat} : ∀ {ps qs : List (List Nat)}, ps ≠ [] → qs ≠ [] → (∀ p ∈ ps, c ∉ p) → (∀ q ∈ qs, c ∉ q) → gl c ps = gl c qs → ps = qs
  | [], _, h, _, _, _, _ => absurd rfl h
  | _, [], _, h, _, _, _ => absurd rfl h
  | [x], [y], _, _, _, _, e => by rw [show x = y from e]
  | [x], y :: z :: r, _, _, hp, _, e => (free_not (hp x (List.mem_cons_self ..)) (show x = y ++ c :: gl c (z :: r) from e)).elim
  | x :: z :: r, [y], _, _, _, hq, e => (free_not (hq y (List.mem_cons_self ..)) (show y = x ++ c :: gl c (z :: r) from e.symm)).elim
  | x :: z :: r, y :: z' :: r', _, _, hp, hq, e => by
    obtain ⟨e1, e2⟩ := app_free (hp x (List.mem_cons_self ..)) (hq y (List.mem_cons_self ..)) (show x ++ c :: gl c (z :: r) = y ++ c :: gl c (z' :: r') from e)
    have e3 := gl_inj (List.cons_ne_nil _ _) (List.cons_ne_nil _ _) (fun p h => hp p (List.mem_cons_of_mem _ h)) (fun q h => hq q (List.mem_cons_of_mem _ h)) e2
    rw [e1, e3]
theorem split_gl {c : Nat} {ps : List (List Nat)} (hne : ps ≠ []) (hp : ∀ p ∈ ps, c ∉ p) : Txt.split (mkS (gl c ps)) (mkS [c]) = ps.map mkS := by
  have h1 := StrLaws.join_split (mkS (gl c ps)) ⟨#[c]⟩
  have h2 := StrLaws.split_free (mkS (gl c ps)) c
  have h3 : (Txt.split (mkS (gl c ps)) ⟨#[c]⟩) ≠ [] := by
    intro e
    unfold Txt.split at e
    split at e
    · cases e
    · split at e
      · cases e
      · have := congrArg List.length e
        rw [len_partsBetween] at this
        simp at this
  show Txt.split (mkS (gl c ps)) ⟨#[c]⟩ = _
  generalize Txt.split (mkS (gl c ps)) ⟨#[c]⟩ = qs at h1 h2 h3
  have h4 : gl c (qs.map fun p => p.cps.toList) = gl c ps := by rw [← join_gl, h1, mkS_list]
  have h5 := gl_inj (c := c) (by simpa using h3) hne (fun p hp' => by obtain ⟨q, hq, rfl⟩ := List.mem_map.mp hp'; exact h2 q hq) hp h4
  rw [← h5, List.map_map]
  refine (List.map_id _).symm.trans (List.map_congr_left fun q _ => ?_)
  exact mkS_of rfl
end Mine
end
/- TextQ -/
noncomputable section
open PySem PySem.W PyProof.Rows PySem.Calls PySem.NumText
namespace Mine
def innerL (n : Int) : List Nat := gl (markN n) [[], extraL n, extraL n, portL n, []]
def rposT (n : Int) : Int := 8 + ((innerL n).length : Int)
theorem innerL_eq (n : Int) : innerL n = markN n :: (extraL n ++ markN n :: (extraL n ++ markN n :: (portL n ++ [markN n]))) := rfl
theorem ofS1 : Str.ofString "229 Go (" = mkS [50, 50, 57, 32, 71, 111, 32, 40] := by decide +kernel
theorem ofS2 : Str.ofString ") (" = mkS [41, 32, 40] := by decide +kernel
theorem ofS3 : Str.ofString ")" = mkS [41] := by decide +kernel
theorem ofS4 : Str.ofString "(" = mkS [40] := by decide +kernel
theorem ofS5 : Str.ofString "229" = mkS [50, 50, 57] := by decide +kernel
theorem replyT_eq (n : Int) : replyT n = mkS ([50, 50, 57, 32, 71, 111, 32, 40] ++ (innerL n ++ 41 :: [32, 40, markN n, 41])) := by
  unfold replyT
  rw [markT_eq, extraT_eq, portT_eq, ofS1, ofS2, ofS3]
  simp only [mkS_app]
  congr 1
  rw [innerL_eq]
  simp only [List.append_assoc, List.cons_append, List.nil_append]
theorem extraL_is (n : Int) : extraL n = [] ∨ extraL n = [50] := by unfold extraL; split <;> simp
theorem extraL_len (n : Int) : (extraL n).length ≤ 1 := by rcases extraL_is n with h | h <;> simp [h]
theorem portL_len (n : Int) : (portL n).length ≤ 8 := by have := portT_len n; rw [portT_eq, mkS_len] at this; exact this
theorem rposT_is (n : Int) : 12 ≤ rposT n ∧ rposT n ≤ 40 := by
  unfold rposT
  rw [innerL_eq]
  have h1 := extraL_len n
  have h2 := portL_len n
  simp only [List.length_cons, List.length_append, List.length_nil]
  omega
theorem replyT_len (n : Int) : ((replyT n).length : Int) = rposT n + 5 := by
  rw [replyT_eq, mkS_len]
  unfold rposT
  simp only [List.length_cons, List.length_append, List.length_nil]
  omega
theorem r_slice3 (n : Int) : Txt.slice (replyT n) none (some 3) = Str.ofString "229" := by
  rw [replyT_eq, ofS5]
  exact slice_to [50, 50, 57] _ 3 rfl
theorem r_find (n : Int) : Txt.find (replyT n) (Str.ofString "(") = 7 := by
  rw [replyT_eq, ofS4, find_eq]
  refine find_at (a := [50, 50, 57, 32, 71, 111, 32]) (c := 40) (i := 0) (Nat.zero_le _) fun v _ hv => ?_
  have : v < 7 := hv
  have h : v = 0 ∨ v = 1 ∨ v = 2 ∨ v = 3 ∨ v = 4 ∨ v = 5 ∨ v = 6 := by omega
  rcases h with rfl | rfl | rfl | rfl | rfl | rfl | rfl <;> decide
theorem inner_no41 (n : Int) : ∀ c ∈ innerL n, c ≠ 41 := by
  intro c hc
  rw [innerL_eq] at hc
  have hm : markN n ≠ 41 := by rcases markN_is n with h | h | h | h <;> rw [h] <;> decide
  have he : ∀ c ∈ extraL n, c ≠ 41 := by intro c hc; rcases extraL_is n with h | h <;> rw [h] at hc <;> simp at hc; omega
  have hp : ∀ c ∈ portL n, c ≠ 41 := fun c hc => by have := portL_digits n c hc; omega
  simp only [List.mem_cons, List.mem_append, List.not_mem_nil, or_false] at hc
  rcases hc with rfl | h | rfl | h | rfl | h | rfl
  · exact hm
  · exact he c h
  · exact hm
  · exact he c h
  · exact hm
  · exact hp c h
  · exact hm
theorem r_find2 (n : Int) : Txt.find3 (replyT n) (Str.ofString ")") (7 + 1) = rposT n := by
  rw [replyT_eq, ofS3, ← List.append_assoc]
  have h := find_at (a := [50, 50, 57, 32, 71, 111, 32, 40] ++ innerL n) (b := [32, 40, markN n, 41]) (c := 41) (i := 8) (by simp) fun v h1 h2 => ?_
  · rw [show ((7 : Int) + 1) = ((8 : Nat) : Int) from rfl]
    refine h.trans ?_
    unfold rposT
    simp only [List.length_cons, List.length_append, List.length_nil]
    omega
  · rw [List.getD_eq_getElem?_getD, List.getElem?_append_right h1]
    have h3 : v - 8 < (innerL n).length := by simp at h2; omega
    show ((innerL n)[v - 8]?).getD 0 ≠ 41
    rw [List.getElem?_eq_getElem h3]
    exact inner_no41 n _ (List.getElem_mem h3)
theorem r_item8 (n : Int) : Txt.item (replyT n) (7 + 1) = markT n := by
  rw [replyT_eq, markT_eq, innerL_eq]
  exact item_mid [50, 50, 57, 32, 71, 111, 32, 40] _ _ (7 + 1) rfl
theorem inner_end (n : Int) : ∃ l, innerL n = l ++ [markN n] := ⟨markN n :: (extraL n ++ markN n :: (extraL n ++ markN n :: portL n)), by rw [innerL_eq]; simp⟩
theorem r_itemR (n : Int) : Txt.item (replyT n) (rposT n - 1) = markT n := by
  obtain ⟨l, hl⟩ := inner_end n
  have e : rposT n - 1 = (([50, 50, 57, 32, 71, 111, 32, 40] ++ l).length : Int) := by
    unfold rposT
    rw [hl]
    simp only [List.length_cons, List.length_append, List.length_nil]
    omega
  rw [replyT_eq, markT_eq]
  have h := item_mid ([50, 50, 57, 32, 71, 111, 32, 40] ++ l) (41 :: [32, 40, markN n, 41]) (markN n) (rposT n - 1) e
  rw [← h]
  congr 2
  rw [hl]
  simp
theorem r_inner (n : Int) : Txt.slice (replyT n) (some (7 + 1)) (some (rposT n)) = mkS (innerL n) := by
  rw [replyT_eq]
  exact slice_mid _ _ _ _ _ rfl rfl
theorem free_parts (n : Int) : ∀ q ∈ [[], extraL n, extraL n, portL n, []], markN n ∉ q := by
  have he : markN n ∉ extraL n := by
    intro hc
    rcases extraL_is n with h | h <;> rw [h] at hc <;> simp at hc
    rcases markN_is n with h | h | h | h <;> omega
  have hp : markN n ∉ portL n := fun hc => by have := portL_digits n _ hc; rcases markN_is n with h | h | h | h <;> omega
  intro q hq
  simp only [List.mem_cons, List.not_mem_nil, or_false] at hq
  rcases hq with rfl | rfl | rfl | rfl | rfl
  · exact List.not_mem_nil
  · exact he
  · exact he
  · exact hp
  · exact List.not_mem_nil
theorem r_split (n : Int) : Txt.split (mkS (innerL n)) (markT n) = [mkS [], extraT n, extraT n, portT n, mkS []] := by
  rw [markT_eq, extraT_eq, portT_eq]
  exact split_gl (List.cons_ne_nil _ _) (free_parts n)
theorem inner_len (n : Int) : (mkS (innerL n)).length ≤ 40 := by
  rw [mkS_len]
  have := rposT_is n
  unfold rposT at this
  omega
end Mine
end
/- CParse -/
noncomputable section
open PySem PySem.W PyProof.Rows PySem.Calls
namespace Mine
theorem split5 {prog : Program} {w : World} {A : Around} {E : Value → Shared → Prop} {s : Shared} {h₀ : Heap} {L : Addr} {m : Str → Option Value} {news : List (Addr × Obj)} {x y a b c d e : Str} {t u : Tok} {Q : Value → Shared → Prop}
    (F : Fr h₀ L s.heap m) (N : News h₀ L s.heap news) (hy : (y.length == 0) = false) (hs : Txt.split x y = [a, b, c, d, e]) (hl : x.length ≤ 1000)
    (h : ∀ D ta tb tc td te h' k, Fr h₀ L h' m → News h₀ L h' ((D, listOf #[.str a ta, .str b tb, .str c tc, .str d td, .str e te] 0) :: news) → (∀ p ∈ news, p.1 < D) → Q (.ref D) { s with heap := h', toks := k }) :
    wpAny (model prog w) A (call (.builtin "str.split") [.str x t, .str y u]) Q E s := by
  refine splitN1 (hsz := by rw [sizeLine_eq]; omega) F N hy fun l h' k hm F' N' => ?_
  rw [hs] at hm
  match l, hm with
  | [(a', ta), (b', tb), (c', tc), (d', td), (e', te)], hm =>
    simp only [List.map_cons, List.map_nil, List.cons.injEq, and_true] at hm
    obtain ⟨rfl, rfl, rfl, rfl, rfl⟩ := hm
    exact h _ ta tb tc td te h' k F' N' fun p hp => Heap.lt_size (N p hp).1
theorem mark_ne (n : Int) : (markT n != markT n) = false := bne_self_eq_false _
theorem s229_ne : (Str.ofString "229" != Str.ofString "229") = false := bne_self_eq_false _
theorem mark_len (n : Int) : ((markT n).length == 0) = false := rfl
local macro_rules | `(tactic| walk_at "call builtin:str.split") => `(tactic| (k_here; k_dflt (refine' split5 ?F ?N ?y ?s ?l ?_; (case F => k_asm); (case N => k_asm); (case y => exact mark_len _); (case s => exact r_split _); (case l => exact Nat.le_trans (inner_len _) (by decide)); k_whole; intro D' ta' tb' tc' td' te' h' k' F' N' l1; (try k_lt l1))))
local macro_rules | `(tactic| walk_at "call type:int") => `(tactic| (k_here; (refine KIN.call_text (port_reads _) (Nat.le_trans (portT_len _) (by decide)) ?_)))
local macro_rules | `(tactic| walk_at "call builtin:str.find") => `(tactic| first | (refine SC.find ?_; rw [r_find]) | (refine SC.find3 ?_; rw [r_find2]))
local macro_rules | `(tactic| walk_at "compareOp NotEq str str") => `(tactic| (refine PyProof.Rows.ne_str ?_; first | rw [s229_ne] | rw [mark_ne]))
theorem led_drop2 {h₀ h : Heap} {L : Addr} {a b c : Addr × Obj} {news : List (Addr × Obj)} (N : News h₀ L h (a :: b :: c :: news)) : News h₀ L h (a :: news) :=
  kst_newsOf N fun x hx => by
    rcases hx with _ | ⟨_, hx⟩
    · exact List.Mem.head _
    · exact List.Mem.tail _ (List.Mem.tail _ (List.Mem.tail _ hx))
theorem parse_call {w : World} {p : Program} {loose : List Str} {mean : ExcName → Option Value} {mg mb : Str → Option Value}
    {dp un : Nat} {gd : Option (List Code)} {cn : Str} {cs : Scope} {a : Addr} {ccd : Value} {cl : List (Str × Addr)} {outer : List Env} {A₀ : Around} {base h₀ : Heap} {L : Addr} {m : Str → Option Value} {news : List (Addr × Obj)} {s : Shared} {Q E : Value → Shared → Prop}
    (B : Below A₀ base outer h₀) (F : Fr h₀ L s.heap m) (X : (hd.heap_39 w.params).In h₀) {tp : Addr} {hv : Int} {th tq : Tok} {k : Nat} (N : News h₀ L s.heap ((tp, { cls := .type "tuple", data := .seq #[.int hv th, .str (Str.ofString "peer") tq] k }) :: news)) (T : Top p loose mean mg mb h₀) (hk : cs.kind = .function)
    (hdp : dp + 1 < recursionLimit) (hun : un + 8 < cLine) {n : Int} {t : Tok}
    (hret : ∀ D t' kk h' tk', Fr h₀ L h' m → News h₀ L h' ((D, { cls := .type "tuple", data := .seq #[.int hv th, .int (n.fmod 65536) t'] kk }) :: news) → (∀ p ∈ news, p.1 < D) → Q (.ref D) { s with heap := h', toks := tk' }) :
    wpAny (model PySem.Challenge.rw_ny0076_01.row.prog w) (ktrTop dp un gd cn cs L a ccd cl outer) (call (.ref 107) [.str (replyT n) t, .ref tp]) Q E s := by
  revert X; k_fill; intro X
  k_with_none
  have kMark := kstMark
  have hlen := replyT_len n
  have hrp := rposT_is n
  refine wpAny_call ?_
  k_dflt cell_enter
  repeat' (first | rw [r_slice3] | rw [r_item8] | rw [r_itemR] | rw [r_inner] | (k_unfold; (try dsimp only)) | (k_end; wrow_close) | walk1 | (dsimp only; walk1))
  rename _ ∧ _ ∧ AllLt _ news => l1
  rename News h₀ L _ _ => kN
  exact hret _ _ _ _ _ (by assumption) (led_drop2 kN) fun p hp => kst_ltOf l1.2.2 p hp
end Mine
end
/- LawA -/
noncomputable section
open PySem PySem.W PyProof.Rows PySem.Calls
namespace Mine
/-- the least power of two at which the two agree -/
def Agree (p q : Int) (e : Nat) : Prop := p / 2 ^ e = q / 2 ^ e ∧ ∀ i, i < e → p / 2 ^ i ≠ q / 2 ^ i
theorem half (p : Int) (m : Nat) : p / 2 ^ m = 2 * (p / 2 ^ (m + 1)) + p / 2 ^ m % 2 := by
  have e : p / 2 ^ (m + 1) = p / 2 ^ m / 2 := by
    rw [Int.pow_succ, Int.ediv_ediv_of_nonneg (Int.pow_nonneg (by decide))]
  rw [e]
  omega
theorem bit_is (p : Int) (m : Nat) : (bitN p m : Int) = p / 2 ^ m % 2 := by
  have := Int.emod_nonneg (p / 2 ^ m) (b := 2) (by decide)
  unfold bitN
  omega
theorem bit_01 (p : Int) (m : Nat) : bitN p m = 0 ∨ bitN p m = 1 := by
  have := bit_is p m
  omega
theorem agree_up {p q : Int} {m : Nat} (h : p / 2 ^ m = q / 2 ^ m) : ∀ k, p / 2 ^ (m + k) = q / 2 ^ (m + k)
  | 0 => h
  | k + 1 => by
    have ih := agree_up h k
    have a := half p (m + k)
    have b := half q (m + k)
    rw [← Nat.add_assoc]
    omega
theorem agree_le {p q : Int} {m n : Nat} (h : p / 2 ^ m = q / 2 ^ m) (hn : m ≤ n) : p / 2 ^ n = q / 2 ^ n := by
  obtain ⟨k, rfl⟩ := Nat.exists_eq_add_of_le hn
  exact agree_up h k
theorem Agree.iff {p q : Int} {e n : Nat} (A : Agree p q e) : p / 2 ^ n = q / 2 ^ n ↔ e ≤ n := by
  constructor
  · intro h
    rcases Nat.lt_or_ge n e with hn | hn
    · exact absurd h (A.2 n hn)
    · exact hn
  · exact agree_le A.1
theorem div_big {p : Int} (h0 : 0 ≤ p) (h1 : p < 65536) : p / 2 ^ 16 = 0 := Int.ediv_eq_zero_of_lt h0 (by simpa using h1)
theorem agree_ex {p q : Int} : ∀ n : Nat, p / 2 ^ n = q / 2 ^ n → ∃ e, e ≤ n ∧ Agree p q e
  | 0, h => ⟨0, Nat.le_refl _, h, fun _ hi => absurd hi (Nat.not_lt_zero _)⟩
  | n + 1, h => by
    by_cases hn : p / 2 ^ n = q / 2 ^ n
    · obtain ⟨e, he, A⟩ := agree_ex n hn
      exact ⟨e, by omega, A⟩
    · refine ⟨n + 1, Nat.le_refl _, h, fun i hi e => hn (agree_le e (by omega))⟩
theorem agree_of {p q : Int} (hp0 : 0 ≤ p) (hp1 : p < 65536) (hq0 : 0 ≤ q) (hq1 : q < 65536) : ∃ e, e ≤ 16 ∧ Agree p q e :=
  agree_ex 16 ((div_big hp0 hp1).trans (div_big hq0 hq1).symm)
/-- the first figures -/
noncomputable def hdF (p : Int) (n : Nat) : Nat → List Nat
  | 0 => []
  | i + 1 => hdF p n i ++ [48 + bitN p (n - i - 1)]
theorem hdF_len (p : Int) (n : Nat) : ∀ i, (hdF p n i).length = i
  | 0 => rfl
  | i + 1 => by simp [hdF, hdF_len p n i]
theorem figL_split (p : Int) (n : Nat) : ∀ i, i ≤ n → figL p n = hdF p n i ++ figL p (n - i)
  | 0, _ => rfl
  | i + 1, h => by
    have ih := figL_split p n i (by omega)
    have e : n - i = (n - i - 1) + 1 := by omega
    rw [ih, e, figL, hdF]
    have e2 : n - (i + 1) = n - i - 1 := by omega
    have e3 : n - i - 1 + 1 - 1 = n - i - 1 := by omega
    simp [e2]
theorem hdF_eq {p q : Int} {n : Nat} (hn : p / 2 ^ n = q / 2 ^ n) : ∀ i, i ≤ n → (hdF p n i = hdF q n i ↔ p / 2 ^ (n - i) = q / 2 ^ (n - i))
  | 0, _ => by simp [hdF, hn]
  | i + 1, h => by
    have ih := hdF_eq hn i (by omega)
    have e : n - i = (n - i - 1) + 1 := by omega
    have e2 : n - (i + 1) = n - i - 1 := by omega
    have a := half p (n - i - 1)
    have b := half q (n - i - 1)
    rw [← e] at a b
    have c := bit_is p (n - i - 1)
    have d := bit_is q (n - i - 1)
    rw [hdF, hdF, e2]
    constructor
    · intro h
      have hh := List.append_inj h (by rw [hdF_len, hdF_len])
      have h1 := ih.mp hh.1
      have h2 : 48 + bitN p (n - i - 1) = 48 + bitN q (n - i - 1) := by simpa using hh.2
      omega
    · intro h
      have h1 : p / 2 ^ (n - i) = q / 2 ^ (n - i) := by omega
      have h2 : bitN p (n - i - 1) = bitN q (n - i - 1) := by omega
      rw [ih.mpr h1, h2]
theorem starts_iff (a b : List Nat) : Txt.startswith (mkS a) (mkS b) = true ↔ a.take b.length = b := by
  unfold Txt.startswith
  rw [PySem.StrLaws.subAt_eq, mkS_len, mkS_len, mkS_list, mkS_list]
  simp only [List.drop_zero, Nat.zero_add, Bool.and_eq_true, decide_eq_true_eq, beq_iff_eq]
  constructor
  · exact fun h => h.2
  · intro h
    refine ⟨?_, h⟩
    have := congrArg List.length h
    rw [List.length_take] at this
    omega
end Mine
end
/- LawB -/
noncomputable section
open PySem PySem.W PyProof.Rows PySem.Calls
namespace Mine
theorem nameC_split (q : Int) {i : Nat} (h : i < 16) : nameC q = (47 :: hdF q 16 i) ++ (48 + bitN q (15 - i)) :: (figL q (15 - i) ++ [47]) := by
  have e : 16 - i = (15 - i) + 1 := by omega
  unfold nameC
  rw [figL_split q 16 i (by omega), e, figL]
  simp
theorem ofS_0 : Str.ofString "0" = mkS [48] := by decide +kernel
theorem ofS_1 : Str.ofString "1" = mkS [49] := by decide +kernel
theorem mkS_beq (a b : List Nat) : (mkS a == mkS b) = decide (a = b) := by
  by_cases h : a = b
  · subst h; simp
  · have : mkS a ≠ mkS b := fun e => h (by rw [← mkS_list a, e, mkS_list])
    simp [h, this]
theorem turn_is (q : Int) {i : Nat} (h : i < 16) : turnS (nameT q) i = mkS [49 - bitN q (15 - i)] := by
  have e : Txt.item (nameT q) (1 + (i : Int)) = mkS [48 + bitN q (15 - i)] := by
    show Txt.item (mkS (nameC q)) _ = _
    rw [nameC_split q h]
    exact item_mid _ _ _ _ (by simp [hdF_len]; omega)
  unfold turnS
  rw [e, ofS_0, ofS_1, mkS_beq]
  rcases bit_01 q (15 - i) with h | h <;> rw [h] <;> simp
theorem rule_is (q : Int) (fig : Str) {i : Nat} (h : i < 16) : ruleS (nameT q) fig i = (mkS (47 :: hdF q 16 i ++ [49 - bitN q (15 - i)]), mkS [49 - bitN q (15 - i)] == fig) := by
  have e : Txt.slice (nameT q) none (some (1 + (i : Int))) = mkS (47 :: hdF q 16 i) := by
    show Txt.slice (mkS (nameC q)) _ _ = _
    rw [nameC_split q h]
    exact slice_to _ _ _ (by simp [hdF_len]; omega)
  unfold ruleS
  rw [turn_is q h, e, mkS_app]
theorem hit_is (p q : Int) {i : Nat} (h : i < 16) : Txt.startswith (nameT p) (mkS (47 :: hdF q 16 i ++ [49 - bitN q (15 - i)])) = true ↔ hdF p 16 i = hdF q 16 i ∧ bitN p (15 - i) ≠ bitN q (15 - i) := by
  show Txt.startswith (mkS (nameC p)) _ = true ↔ _
  rw [starts_iff, nameC_split p h]
  have e : (47 :: hdF p 16 i) ++ (48 + bitN p (15 - i)) :: (figL p (15 - i) ++ [47]) = ((47 :: hdF p 16 i) ++ [48 + bitN p (15 - i)]) ++ (figL p (15 - i) ++ [47]) := by simp
  have l : (47 :: hdF q 16 i ++ [49 - bitN q (15 - i)]).length = ((47 :: hdF p 16 i) ++ [48 + bitN p (15 - i)]).length := by simp [hdF_len]
  rw [e, l, List.take_left]
  have bp := bit_01 p (15 - i)
  have bq := bit_01 q (15 - i)
  constructor
  · intro h
    have hh := List.append_inj h (by simp [hdF_len])
    have h1 : hdF p 16 i = hdF q 16 i := by simpa using hh.1
    have h2 : 48 + bitN p (15 - i) = 49 - bitN q (15 - i) := by simpa using hh.2
    exact ⟨h1, by omega⟩
  · rintro ⟨h1, h2⟩
    have h3 : 48 + bitN p (15 - i) = 49 - bitN q (15 - i) := by omega
    rw [h1, h3]
section
variable {p q : Int} {e : Nat}
theorem hit_iff (A : Agree p q e) (h16 : p / 2 ^ 16 = q / 2 ^ 16) {i : Nat} (h : i < 16) : Txt.startswith (nameT p) (mkS (47 :: hdF q 16 i ++ [49 - bitN q (15 - i)])) = true ↔ e = 16 - i := by
  rw [hit_is p q h, hdF_eq h16 i (by omega), A.iff]
  have e1 : 16 - i = (15 - i) + 1 := by omega
  have a := half p (15 - i)
  have b := half q (15 - i)
  have c := bit_is p (15 - i)
  have d := bit_is q (15 - i)
  have k := A.iff (n := 15 - i)
  have k2 := A.iff (n := (15 - i) + 1)
  rw [e1]
  constructor
  · rintro ⟨h1, h2⟩
    have h3 := k2.mpr h1
    have h4 : ¬ e ≤ 15 - i := fun h5 => h2 (by have := k.mpr h5; omega)
    omega
  · intro h1
    refine ⟨by omega, fun h2 => ?_⟩
    have h3 := k2.mpr (by omega)
    have h4 := k.mp (by omega)
    omega
theorem own_iff (A : Agree p q e) (h16 : p / 2 ^ 16 = q / 2 ^ 16) : Txt.startswith (nameT p) (nameT q) = true ↔ e = 0 := by
  show Txt.startswith (mkS (nameC p)) (mkS (nameC q)) = true ↔ _
  rw [starts_iff]
  have l : (nameC q).length = (nameC p).length := by simp [nameC, figL_length]
  rw [l, List.take_length]
  have hs : ∀ x, figL x 16 = hdF x 16 16 := fun x => by rw [figL_split x 16 16 (by omega)]; simp [figL]
  have k := hdF_eq h16 16 (by omega)
  have k2 := A.iff (n := 0)
  have e0 : 16 - 16 = 0 := rfl
  rw [e0] at k
  unfold nameC
  rw [hs, hs]
  constructor
  · intro h
    have h1 : hdF p 16 16 = hdF q 16 16 := by simpa using h
    have := k2.mp (k.mp h1)
    omega
  · intro h
    rw [k.mpr (k2.mpr (by omega))]
def updA (st : Int × Bool) (m : Int) (v : Bool) : Int × Bool := if st.1 < m then (m, v) else if m = st.1 ∧ st.2 = false then (st.1, v) else st
theorem step_hit {name : Str} {r : Str × Bool} {m : Int} (st : Int × Bool) (h : Txt.startswith name r.1 = true) (hm : (r.1.length : Int) + 1 = m) : stepA name st r = updA st m r.2 := by
  have : appV name r.1 = m := by unfold appV; rw [if_pos h, hm]
  have h0 : m ≠ 0 := by omega
  unfold stepA updA
  rw [this, if_neg h0]
theorem step_miss {name : Str} {r : Str × Bool} (st : Int × Bool) (h : ¬ Txt.startswith name r.1 = true) : stepA name st r = st := by
  have : appV name r.1 = 0 := by unfold appV; rw [if_neg h]
  unfold stepA
  rw [if_pos this]
def vdA (p : Int) (fig : Str) (e : Nat) : Bool := if e = 0 then false else (mkS [48 + bitN p (e - 1)] == fig)
theorem fold_range (A : Agree p q e) (he : e ≤ 16) (h16 : p / 2 ^ 16 = q / 2 ^ 16) (fig : Str) (st : Int × Bool) : ∀ n, n ≤ 16 → ((List.range n).map (ruleS (nameT q) fig)).foldl (stepA (nameT p)) st = if 16 - e < n then updA st (19 - e) (vdA p fig e) else st
  | 0, _ => by simp
  | n + 1, h => by
    have ih := fold_range A he h16 fig st n (by omega)
    have hi := hit_iff A h16 (i := n) (by omega)
    have hh := hit_is p q (i := n) (by omega)
    rw [List.range_succ, List.map_append, List.foldl_append, ih]
    simp only [List.map_cons, List.map_nil, List.foldl_cons, List.foldl_nil]
    rw [rule_is q fig (by omega)]
    by_cases c : e = 16 - n
    · have h1 := hi.mpr c
      rw [if_neg (by omega), if_pos (by omega), step_hit (m := 19 - e) st h1 (by rw [mkS_len]; simp [hdF_len]; omega)]
      have h2 := (hh.mp h1).2
      have bp := bit_01 p (15 - n)
      have bq := bit_01 q (15 - n)
      have e1 : e - 1 = 15 - n := by omega
      have e2 : 49 - bitN q (15 - n) = 48 + bitN p (15 - n) := by omega
      unfold vdA
      rw [if_neg (by omega), e1, e2]
    · have h1 : ¬ _ := fun x => c (hi.mp x)
      rw [step_miss _ h1]
      by_cases c2 : 16 - e < n
      · rw [if_pos c2, if_pos (by omega)]
      · rw [if_neg c2, if_neg (by omega)]
theorem name_19 (q : Int) {e : Nat} (c : e = 0) : ((nameT q).length : Int) + 1 = 19 - (e : Int) := by
  have h : (nameT q).length = 18 := rfl
  rw [h, c]
  rfl
theorem fold_rec (A : Agree p q e) (he : e ≤ 16) (h16 : p / 2 ^ 16 = q / 2 ^ 16) (fig : Str) (st : Int × Bool) : (recR (nameT q) fig).foldl (stepA (nameT p)) st = updA st (19 - e) (vdA p fig e) := by
  unfold recR
  rw [List.foldl_append, fold_range A he h16 fig st 16 (by omega)]
  simp only [List.foldl_cons, List.foldl_nil]
  have o := own_iff A h16
  by_cases c : e = 0
  · rw [if_neg (by omega), step_hit (r := (nameT q, false)) (m := 19 - e) st (o.mpr c) (name_19 q c)]
    unfold vdA
    rw [if_pos c]
  · rw [if_pos (by omega), step_miss (r := (nameT q, false)) _ fun x => c (o.mp x)]
theorem lt_of_div {a b s : Int} (hs : 0 < s) (h : a / s < b / s) : a < b := by
  rcases Int.lt_or_le a b with c | c
  · exact c
  · have := Int.ediv_le_ediv hs c
    omega
theorem vd_bits (A : Agree p q e) (c : e ≠ 0) : (bitN p (e - 1) = 0 ∧ p < q) ∨ (bitN p (e - 1) = 1 ∧ q < p) := by
  have a := half p (e - 1)
  have b := half q (e - 1)
  have e1 : e - 1 + 1 = e := by omega
  rw [e1] at a b
  have h1 := A.1
  have h2 := A.2 (e - 1) (by omega)
  have c1 := bit_is p (e - 1)
  have d1 := bit_is q (e - 1)
  have bp := bit_01 p (e - 1)
  have bq := bit_01 q (e - 1)
  rcases bp with bp | bp
  · exact .inl ⟨bp, lt_of_div (PySem.W.kbt_pos (e - 1)) (by omega)⟩
  · exact .inr ⟨bp, lt_of_div (PySem.W.kbt_pos (e - 1)) (by omega)⟩
theorem vd_0 (A : Agree p q e) : vdA p (Str.ofString "0") e = decide (p < q) := by
  unfold vdA
  by_cases c : e = 0
  · subst c
    have := A.1
    simp at this
    subst this
    simp
  · rw [if_neg c, ofS_0, mkS_beq]
    rcases vd_bits A c with ⟨h1, h2⟩ | ⟨h1, h2⟩
    · simp [h1, h2]
    · rw [h1]; simp; omega
theorem vd_1 (A : Agree p q e) : vdA p (Str.ofString "1") e = decide (q < p) := by
  unfold vdA
  by_cases c : e = 0
  · subst c
    have := A.1
    simp at this
    subst this
    simp
  · rw [if_neg c, ofS_1, mkS_beq]
    rcases vd_bits A c with ⟨h1, h2⟩ | ⟨h1, h2⟩
    · rw [h1]; simp; omega
    · simp [h1, h2]
end
def resA (e1 e2 : Nat) (v1 v2 : Bool) : Bool := if e1 < e2 then v1 else if e2 < e1 then v2 else v1 || v2
theorem upd2 {e1 e2 : Nat} (h1 : e1 ≤ 16) (h2 : e2 ≤ 16) (v1 v2 : Bool) : (updA (updA (-1, true) (19 - e1) v1) (19 - e2) v2).2 = resA e1 e2 v1 v2 := by
  have a : updA (-1, true) (19 - e1) v1 = (19 - (e1 : Int), v1) := by unfold updA; rw [if_pos (by show (-1 : Int) < _; omega)]
  rw [a]
  unfold updA resA
  dsimp only
  rcases Nat.lt_trichotomy e1 e2 with h | h | h
  · rw [if_neg (by omega), if_neg (fun x => by have := x.1; omega), if_pos h]
  · subst h
    rw [if_neg (by omega)]
    cases v1 <;> simp
  · rw [if_pos (by omega), if_neg (by omega), if_pos h]
theorem resA_swap (e1 e2 : Nat) (v1 v2 : Bool) : resA e2 e1 v2 v1 = resA e1 e2 v1 v2 := by
  unfold resA
  rcases Nat.lt_trichotomy e1 e2 with h | h | h
  · rw [if_neg (by omega), if_pos h, if_pos h]
  · subst h
    simp [Bool.or_comm]
  · rw [if_pos h, if_neg (by omega), if_pos h]
theorem fold_both {p low high : Int} {e1 e2 : Nat} (hp0 : 0 ≤ p) (hp1 : p < 65536) (hl0 : 0 ≤ low) (hl1 : low < 65536) (hh0 : 0 ≤ high) (hh1 : high < 65536) (A1 : Agree p low e1) (A2 : Agree p high e2) (h1 : e1 ≤ 16) (h2 : e2 ≤ 16) :
    (foldA (nameT p) (recR (nameT low) (Str.ofString "0") ++ recR (nameT high) (Str.ofString "1"))).2 = resA e1 e2 (decide (p < low)) (decide (high < p)) ∧ (foldA (nameT p) (recR (nameT high) (Str.ofString "1") ++ recR (nameT low) (Str.ofString "0"))).2 = resA e1 e2 (decide (p < low)) (decide (high < p)) := by
  have a1 := (div_big hp0 hp1).trans (div_big hl0 hl1).symm
  have a2 := (div_big hp0 hp1).trans (div_big hh0 hh1).symm
  unfold foldA
  rw [List.foldl_append, List.foldl_append, fold_rec A1 h1 a1, fold_rec A2 h2 a2, fold_rec A1 h1 a1, fold_rec A2 h2 a2, vd_0 A1, vd_1 A2, upd2 h1 h2, upd2 h2 h1, resA_swap]
  exact ⟨rfl, rfl⟩
theorem blk_iff {p low : Int} {j : Nat} : p - p.fmod (2 ^ j) = low - low.fmod (2 ^ j) ↔ p / 2 ^ j = low / 2 ^ j := by
  have hs := PySem.W.kbt_pos j
  rw [Int.fmod_eq_emod_of_nonneg p (Int.le_of_lt hs), Int.fmod_eq_emod_of_nonneg low (Int.le_of_lt hs)]
  have a := Int.mul_ediv_add_emod p (2 ^ j)
  have b := Int.mul_ediv_add_emod low (2 ^ j)
  constructor
  · intro h
    exact Int.eq_of_mul_eq_mul_left (Int.ne_of_gt hs) (a := (2 : Int) ^ j) (by omega)
  · intro h
    rw [h] at a
    omega
theorem mod_near {x s : Int} (hs : 0 < s) (h1 : -s < x) (h2 : x < s) : x.fmod s = if 0 ≤ x then x else x + s := by
  rw [Int.fmod_eq_emod_of_nonneg x (Int.le_of_lt hs)]
  by_cases h : 0 ≤ x
  · rw [if_pos h, Int.emod_eq_of_lt h h2]
  · rw [if_neg h, ← Int.add_emod_right, Int.emod_eq_of_lt (by omega) (by omega)]
theorem in_a {p l h s K : Int} (a1 : K ≤ p) (a2 : p < K + s) (b1 : K ≤ l) (b2 : l < K + s) (c1 : K ≤ h) (c2 : h < K + s) (d : (p < h ∧ l < h) ∨ (h < p ∧ h < l)) : p < l ↔ ¬ (p - l).fmod s ≤ (h - l).fmod s := by
  rw [mod_near (by omega) (by omega) (by omega), mod_near (by omega) (by omega) (by omega)]
  split <;> split <;> omega
theorem in_b {p l h s K : Int} (a1 : K ≤ p) (a2 : p < K + s) (b1 : K ≤ l) (b2 : l < K + s) (c1 : K ≤ h) (c2 : h < K + s) (d : (l < p ∧ l < h) ∨ (p < l ∧ h < l)) : h < p ↔ ¬ (p - l).fmod s ≤ (h - l).fmod s := by
  rw [mod_near (by omega) (by omega) (by omega), mod_near (by omega) (by omega) (by omega)]
  split <;> split <;> omega
theorem halve (p : Int) {j : Nat} (h : j ≠ 0) : p / 2 ^ j = p / 2 ^ (j - 1) / 2 := by
  obtain ⟨m, rfl⟩ := Nat.exists_eq_succ_of_ne_zero h
  rw [Nat.succ_sub_one, Int.ediv_ediv_of_nonneg (Int.pow_nonneg (by decide)), Int.pow_succ]
theorem third {a b c : Int} (h1 : a / 2 = b / 2) (h2 : b / 2 = c / 2) (hd : b ≠ c) (h3 : ¬ a = b) : a = c := by omega
theorem res_a {e1 e2 : Nat} (h : e1 < e2) (v1 v2 : Bool) : resA e1 e2 v1 v2 = v1 := if_pos h
theorem res_b {e1 e2 : Nat} (h : e2 < e1) (v1 v2 : Bool) : resA e1 e2 v1 v2 = v2 := by
  unfold resA
  rw [if_neg (Nat.lt_asymm h), if_pos h]
theorem law_in {p low high sz : Int} (hB : IsBlk low high sz) (hp0 : 0 ≤ p) (hp1 : p < 65536) (hl0 : 0 ≤ low) (hl1 : low < 65536) (hh0 : 0 ≤ high) (hh1 : high < 65536) (h : p - p.fmod sz = low - low.fmod sz) :
    (foldA (nameT p) (recR (nameT low) (Str.ofString "0") ++ recR (nameT high) (Str.ofString "1"))).2 = (!decide ((p - low).fmod sz ≤ (high - low).fmod sz)) ∧ (foldA (nameT p) (recR (nameT high) (Str.ofString "1") ++ recR (nameT low) (Str.ofString "0"))).2 = (!decide ((p - low).fmod sz ≤ (high - low).fmod sz)) := by
  obtain ⟨j, hj, rfl, e, hne⟩ := hB
  have h := blk_iff.mp h
  obtain ⟨e1, h1, A1⟩ := agree_of hp0 hp1 hl0 hl1
  obtain ⟨e2, h2, A2⟩ := agree_of hp0 hp1 hh0 hh1
  obtain ⟨f1, f2⟩ := fold_both hp0 hp1 hl0 hl1 hh0 hh1 A1 A2 h1 h2
  have key : resA e1 e2 (decide (p < low)) (decide (high < p)) = (!decide ((p - low).fmod (2 ^ j) ≤ (high - low).fmod (2 ^ j))) := by
    by_cases hj0 : j = 0
    · subst hj0
      simp only [Int.pow_zero, Int.ediv_one] at h e
      subst h
      subst e
      obtain rfl := Nat.le_zero.mp ((A1.iff (n := 0)).mp rfl)
      obtain rfl := Nat.le_zero.mp ((A2.iff (n := 0)).mp rfl)
      simp [resA]
    · have hs := PySem.W.kbt_pos j
      have hs1 := PySem.W.kbt_pos (j - 1)
      have lo : ∀ x : Int, 2 ^ j * (x / 2 ^ j) ≤ x := fun x => Int.mul_ediv_self_le (Int.ne_of_gt hs)
      have up : ∀ x : Int, x < 2 ^ j * (x / 2 ^ j) + 2 ^ j := fun x => Int.lt_mul_ediv_self_add hs
      have a1 := lo p
      have a2 := up p
      have c1 := lo high
      have c2 := up high
      rw [h] at a1 a2
      rw [← e] at c1 c2
      have hd := hne (j - 1) (Nat.sub_lt (Nat.pos_of_ne_zero hj0) Nat.one_pos)
      rw [← decide_not]
      by_cases c : p / 2 ^ (j - 1) = low / 2 ^ (j - 1)
      · have g1 := A1.iff.mp c
        have g2 : ¬ e2 ≤ j - 1 := fun x => hd (c.symm.trans (A2.iff.mpr x))
        rw [res_a (Nat.lt_of_le_of_lt g1 (Nat.lt_of_not_le g2))]
        refine decide_eq_decide.mpr (in_a a1 a2 (lo low) (up low) c1 c2 ?_)
        rcases Int.lt_or_gt_of_ne hd with k | k
        · exact .inl ⟨lt_of_div hs1 (c ▸ k), lt_of_div hs1 k⟩
        · exact .inr ⟨lt_of_div hs1 (c ▸ k), lt_of_div hs1 k⟩
      · have c' : p / 2 ^ (j - 1) = high / 2 ^ (j - 1) := third (by rw [← halve p hj0, ← halve low hj0]; exact h) (by rw [← halve low hj0, ← halve high hj0]; exact e) hd c
        have g1 := A2.iff.mp c'
        have g2 : ¬ e1 ≤ j - 1 := fun x => c (A1.iff.mpr x)
        rw [res_b (Nat.lt_of_le_of_lt g1 (Nat.lt_of_not_le g2))]
        refine decide_eq_decide.mpr (in_b a1 a2 (lo low) (up low) c1 c2 ?_)
        rcases Int.lt_or_gt_of_ne hd with k | k
        · exact .inl ⟨lt_of_div hs1 (c' ▸ k), lt_of_div hs1 k⟩
        · exact .inr ⟨lt_of_div hs1 (c' ▸ k), lt_of_div hs1 k⟩
  exact ⟨f1.trans key, f2.trans key⟩
theorem law_out {p low high sz : Int} (hB : IsBlk low high sz) (hp0 : 0 ≤ p) (hp1 : p < 65536) (hl0 : 0 ≤ low) (hl1 : low < 65536) (hh0 : 0 ≤ high) (hh1 : high < 65536) (h : p - p.fmod sz ≠ low - low.fmod sz) :
    (foldA (nameT p) (recR (nameT low) (Str.ofString "0") ++ recR (nameT high) (Str.ofString "1"))).2 = (!(p - p.fmod sz == low - low.fmod sz)) ∧ (foldA (nameT p) (recR (nameT high) (Str.ofString "1") ++ recR (nameT low) (Str.ofString "0"))).2 = (!(p - p.fmod sz == low - low.fmod sz)) := by
  obtain ⟨j, hj, rfl, e, hne⟩ := hB
  have hr : (!(p - p.fmod (2 ^ j) == low - low.fmod (2 ^ j))) = true := by simp [h]
  have h : ¬ p / 2 ^ j = low / 2 ^ j := fun x => h (blk_iff.mpr x)
  obtain ⟨e1, h1, A1⟩ := agree_of hp0 hp1 hl0 hl1
  obtain ⟨e2, h2, A2⟩ := agree_of hp0 hp1 hh0 hh1
  obtain ⟨f1, f2⟩ := fold_both hp0 hp1 hl0 hl1 hh0 hh1 A1 A2 h1 h2
  have key : resA e1 e2 (decide (p < low)) (decide (high < p)) = true := by
    have g1 : ¬ e1 ≤ j := fun x => h (A1.iff.mpr x)
    have g2 : ¬ e2 ≤ j := fun x => h ((A2.iff.mpr x).trans e.symm)
    have u := A2.iff.mp (A1.1.trans (agree_le e (by omega)))
    have v := A1.iff.mp (A2.1.trans (agree_le e (by omega)).symm)
    have hs := PySem.W.kbt_pos j
    have l1 : p / 2 ^ j < low / 2 ^ j → p < low := lt_of_div hs
    have l2 : high / 2 ^ j < p / 2 ^ j → high < p := lt_of_div hs
    unfold resA
    rw [if_neg (by omega), if_neg (by omega), Bool.or_eq_true, decide_eq_true_eq, decide_eq_true_eq]
    omega
  exact ⟨f1.trans (key.trans hr.symm), f2.trans (key.trans hr.symm)⟩
end Mine
end
/- CWrap -/
noncomputable section
open PySem PySem.W PyProof.Rows PySem.Calls
namespace Mine
theorem nameT_len (n : Int) : (nameT n).length = 18 := rfl
theorem nameT_le (n : Int) : (nameT n).length ≤ 100 := by rw [nameT_len]; decide
theorem fig_len0 : (Str.ofString "0").length = 1 := by decide +kernel
theorem fig_len1 : (Str.ofString "1").length = 1 := by decide +kernel
theorem own_one {D : Addr} {o : Obj} (h : D ≠ 130) : OwnOff [(D, o)] [130] := by
  intro p hp z hz
  rw [List.mem_singleton.mp hp, List.mem_singleton.mp hz]
  exact h
theorem led_ports {h₀ h : Heap} {L : Addr} {a b : Addr × Obj} {rest : List (Addr × Obj)} (N : News h₀ L h (a :: rest)) (hm : b ∈ rest) : News h₀ L h [b, a] :=
  kst_newsOf N fun p hp => by
    simp only [List.mem_cons, List.not_mem_nil, or_false] at hp
    rcases hp with rfl | rfl
    · exact List.Mem.tail _ hm
    · exact List.Mem.head _
structure St2 (w : World) (nw : List (Addr × Obj)) (q : Addr × Obj) (v1 : Value) (rs1 : List (Str × Bool)) (v2 : Value) (rs2 : List (Str × Bool)) : Prop where
  mT : ∃ ps, (130, tabObj ps) ∈ nw
  mD : q ∈ nw
  e1 : EntryIn w nw v1 rs1
  e2 : EntryIn w nw v2 rs2
theorem St2.mono {w : World} {nw nw' : List (Addr × Obj)} {q : Addr × Obj} {v1 v2 : Value} {rs1 rs2 : List (Str × Bool)} (S : St2 w nw q v1 rs1 v2 rs2) (hs : ∀ p ∈ nw, p ∈ nw') : St2 w nw' q v1 rs1 v2 rs2 :=
  ⟨S.mT.imp fun _ h => hs _ h, hs _ S.mD, S.e1.mono hs, S.e2.mono hs⟩
theorem recR_len (nm fig : Str) : (recR nm fig).length ≤ 100 := by simp [recR]
theorem led_ne {h₀ h : Heap} {L : Addr} {q : Addr × Obj} (N : News h₀ L h [(130, tabObj #[]), q]) (hq : q.2 ≠ tabObj #[]) : q.1 ≠ 130 := by
  intro e
  have h1 := (N _ (List.Mem.head _)).1
  have h2 := (N q (List.Mem.tail _ (List.Mem.head _))).1
  rw [e] at h2
  exact hq (Option.some.inj (h2.symm.trans h1))
theorem lst_ne_tab {D : Addr} {vs : List Value} : (D, LCg.lst vs).2 ≠ tabObj #[] := fun h => by
  have := congrArg Obj.cls h
  simp [LCg.lst, tabObj] at this
theorem rec1 {w : World} {p : Program} {loose : List Str} {mean : ExcName → Option Value} {mg mb : Str → Option Value}
    {dp un : Nat} {gd : Option (List Code)} {cn : Str} {cs : Scope} {a : Addr} {ccd : Value} {cl : List (Str × Addr)} {outer : List Env} {A₀ : Around} {base h₀ : Heap} {L : Addr} {m : Str → Option Value} {q : Addr × Obj} {s : Shared} {Q E : Value → Shared → Prop}
    (B : Below A₀ base outer h₀) (F : Fr h₀ L s.heap m) (X : (hd.heap_39 w.params).In h₀) (N : News h₀ L s.heap [(130, tabObj #[]), q]) (T : Top p loose mean mg mb h₀) (hk : cs.kind = .function) (C : CodeHd base 134 130) (hq : q.2 ≠ tabObj #[])
    (hdp : dp + 4 < recursionLimit) (hun : un + 32 < cLine) {nm fig : Str} {t t2 : Tok} (hnm : nm.length = 18) (hfig : fig.length = 1)
    (hret : ∀ v nw ps' h' tk', Fr h₀ L h' m → News h₀ L h' ((130, tabObj ps') :: nw) → OwnOff nw [130] → TabSt nw ps' → q ∈ nw → EntryIn w nw v (recR nm fig) → Q v { s with heap := h', toks := tk' }) :
    wpAny (model PySem.Challenge.rw_ny0076_01.row.prog w) (ktrTop dp un gd cn cs L a ccd cl outer) (call (.ref 142) [.str nm t, .str fig t2]) Q E s :=
  record_call B F X N T hk C (own_one (led_ne N hq)) (.inl rfl) hdp hun hnm hfig fun v nw ps' h' tk' F' N' hs hO hS hE => hret v nw ps' h' tk' F' N' hO hS (hs _ (List.Mem.head _)) hE
theorem rec2 {w : World} {p : Program} {loose : List Str} {mean : ExcName → Option Value} {mg mb : Str → Option Value}
    {dp un : Nat} {gd : Option (List Code)} {cn : Str} {cs : Scope} {a : Addr} {ccd : Value} {cl : List (Str × Addr)} {outer : List Env} {A₀ : Around} {base h₀ : Heap} {L : Addr} {m : Str → Option Value} {q : Addr × Obj} {news : List (Addr × Obj)} {ps : Array Value} {v1 : Value} {rs1 : List (Str × Bool)} {s : Shared} {Q E : Value → Shared → Prop}
    (B : Below A₀ base outer h₀) (F : Fr h₀ L s.heap m) (X : (hd.heap_39 w.params).In h₀) (N : News h₀ L s.heap ((130, tabObj ps) :: news)) (T : Top p loose mean mg mb h₀) (hk : cs.kind = .function) (C : CodeHd base 134 130) (hO : OwnOff news [130]) (hS : TabSt news ps) (hq : q ∈ news) (hE : EntryIn w news v1 rs1)
    (hdp : dp + 4 < recursionLimit) (hun : un + 32 < cLine) {nm fig : Str} {t t2 : Tok} (hnm : nm.length = 18) (hfig : fig.length = 1)
    (hret : ∀ v nw h' tk', Fr h₀ L h' m → News h₀ L h' nw → St2 w nw q v1 rs1 v (recR nm fig) → Q v { s with heap := h', toks := tk' }) :
    wpAny (model PySem.Challenge.rw_ny0076_01.row.prog w) (ktrTop dp un gd cn cs L a ccd cl outer) (call (.ref 142) [.str nm t, .str fig t2]) Q E s :=
  record_call B F X N T hk C hO hS hdp hun hnm hfig fun v nw ps' h' tk' F' N' hs _ _ hE' =>
    hret v _ h' tk' F' N' ⟨⟨ps', List.Mem.head _⟩, List.Mem.tail _ (hs _ hq), (hE.mono hs).mono fun _ h => List.Mem.tail _ h, hE'.mono fun _ h => List.Mem.tail _ h⟩
theorem mrg1 {w : World} {p : Program} {loose : List Str} {mean : ExcName → Option Value} {mg mb : Str → Option Value}
    {dp un : Nat} {gd : Option (List Code)} {cn : Str} {cs : Scope} {a : Addr} {ccd : Value} {cl : List (Str × Addr)} {outer : List Env} {A₀ : Around} {base h₀ : Heap} {L : Addr} {m : Str → Option Value} {q : Addr × Obj} {news : List (Addr × Obj)} {v1 v2 : Value} {n1 n2 f1 f2 : Str} {s : Shared} {Q E : Value → Shared → Prop}
    (B : Below A₀ base outer h₀) (F : Fr h₀ L s.heap m) (X : (hd.heap_39 w.params).In h₀) (N : News h₀ L s.heap news) (T : Top p loose mean mg mb h₀) (hk : cs.kind = .function) (S : St2 w news q v1 (recR n1 f1) v2 (recR n2 f2))
    (hdp : dp + 4 < recursionLimit) (hun : un + 32 < cLine)
    (hret : ∀ v nw h' tk', Fr h₀ L h' m → News h₀ L h' nw → St2 w nw q v1 (recR n1 f1) v2 (recR n2 f2) → AllowIn w nw v (recR n1 f1 ++ recR n2 f2) → Q v { s with heap := h', toks := tk' }) :
    wpAny (model PySem.Challenge.rw_ny0076_01.row.prog w) (ktrTop dp un gd cn cs L a ccd cl outer) (call (.ref 63) [v1, v2]) Q E s :=
  merge_call B F X N T hk hdp hun S.e1 S.e2 (recR_len _ _) (recR_len _ _) fun v nw h' tk' F' N' hs hA => hret v nw h' tk' F' N' (S.mono hs) hA
theorem mrg2 {w : World} {p : Program} {loose : List Str} {mean : ExcName → Option Value} {mg mb : Str → Option Value}
    {dp un : Nat} {gd : Option (List Code)} {cn : Str} {cs : Scope} {a : Addr} {ccd : Value} {cl : List (Str × Addr)} {outer : List Env} {A₀ : Around} {base h₀ : Heap} {L : Addr} {m : Str → Option Value} {q : Addr × Obj} {news : List (Addr × Obj)} {v1 v2 va : Value} {ra : List (Str × Bool)} {n1 n2 f1 f2 : Str} {s : Shared} {Q E : Value → Shared → Prop}
    (B : Below A₀ base outer h₀) (F : Fr h₀ L s.heap m) (X : (hd.heap_39 w.params).In h₀) (N : News h₀ L s.heap news) (T : Top p loose mean mg mb h₀) (hk : cs.kind = .function) (S : St2 w news q v1 (recR n1 f1) v2 (recR n2 f2)) (hA : AllowIn w news va ra)
    (hdp : dp + 4 < recursionLimit) (hun : un + 32 < cLine)
    (hret : ∀ v nw ps h' tk', Fr h₀ L h' m → News h₀ L h' nw → (130, tabObj ps) ∈ nw → q ∈ nw → AllowIn w nw va ra → AllowIn w nw v (recR n2 f2 ++ recR n1 f1) → Q v { s with heap := h', toks := tk' }) :
    wpAny (model PySem.Challenge.rw_ny0076_01.row.prog w) (ktrTop dp un gd cn cs L a ccd cl outer) (call (.ref 63) [v2, v1]) Q E s :=
  merge_call B F X N T hk hdp hun S.e2 S.e1 (recR_len _ _) (recR_len _ _) fun v nw h' tk' F' N' hs hA2 => by
    obtain ⟨ps, hp⟩ := S.mT
    exact hret v nw ps h' tk' F' N' (hs _ hp) (hs _ S.mD) (hA.mono hs) hA2
theorem blk_pos {low high sz : Int} (h : IsBlk low high sz) : 0 < sz := by
  obtain ⟨j, _, e, _⟩ := h
  rw [e]
  exact Int.pow_pos (by decide)
def StayJ (m₀ : Str → Option Value) (nx₀ : List (Addr × Obj)) (_ : Nat) (m : Str → Option Value) (nx : List (Addr × Obj)) : Prop := nx = nx₀ ∧ ∀ y, y ≠ Str.ofString "k" → y ≠ Str.ofString "port" → y ≠ Str.ofString "shut" → m y = m₀ y
theorem fr_keep3 {h₀ h : Heap} {L : Addr} {m₀ m₁ : Str → Option Value} {a b c : Str} {v : Value} (hm : ∀ y, y ≠ a → y ≠ b → y ≠ c → m₁ y = m₀ y) (F : Fr h₀ L h (fun y => if y = a then some v else m₁ y)) :
    Fr h₀ L h (fun y => if y = a then some v else if y = b then m₁ b else if y = c then m₁ c else m₀ y) := by
  have e : (fun y => if y = a then some v else if y = b then m₁ b else if y = c then m₁ c else m₀ y) = fun y => if y = a then some v else m₁ y := by
    funext y
    by_cases h1 : y = a
    · simp [h1]
    · by_cases h2 : y = b
      · subst h2; simp
      · by_cases h3 : y = c
        · subst h3; simp [h2]
        · simp [h1, h2, h3, hm y h1 h2 h3]
  rw [e]; exact F
noncomputable def AllI : List Value → Prop
  | [] => True
  | .int _ _ :: r => AllI r
  | _ => False
theorem AllI.get : ∀ {vs : List Value} {i : Nat} {v : Value}, AllI vs → vs[i]? = some v → ∃ x t, v = .int x t
  | [], _, _, _, h => by simp at h
  | .int x t :: _, 0, _, _, h => ⟨x, t, (Option.some.inj h).symm⟩
  | .int _ _ :: r, i + 1, _, a, h => AllI.get (vs := r) a (by simpa using h)
theorem int_item {prog : Program} {w : World} {A : Around} {E : Value → Shared → Prop} {s : Shared} {h₀ : Heap} {L l : Addr} {news : List (Addr × Obj)} {value slice : PySem.Expr} {vs : List Value} {u : Tok} {k n : Nat} {i : Int} {Q : Value → Shared → Prop}
    (N : News h₀ L s.heap news) (hl : (l, listOf vs.toArray k) ∈ news) (hv : AllI vs) (hn : vs.length = n) (h0 : 0 ≤ i) (h1 : i < n) (hz : n < 1000) (h : ∀ x t, Q (.int x t) s)
    (hs : subscripted slice false (.ref l) (.int i u) = operate [.ref l, .int i u] (getItem (.ref l) (.int i u))) : wpAny (model prog w) A (subscriptTail value slice (.ref l) (.int i u)) Q E s := by
  have hL : s.heap.IsList l vs.toArray := ⟨_, (N _ hl).1, rfl, k, rfl⟩
  have hlt : i.toNat < vs.length := by omega
  obtain ⟨x, t, e⟩ := hv.get (List.getElem?_eq_getElem hlt)
  exact item_litK hL h0 (by omega) (List.getElem?_eq_getElem hlt) (e ▸ h x t) hs
theorem rec_item {prog : Program} {w : World} {A : Around} {E : Value → Shared → Prop} {s : Shared} {h₀ : Heap} {L l : Addr} {news nw : List (Addr × Obj)} {value slice : PySem.Expr} {va vb : Value} {r1 r2 : List (Str × Bool)} {u : Tok} {k : Nat} {i : Int} {Q : Value → Shared → Prop}
    (N : News h₀ L s.heap news) (hl : (l, listOf #[va, vb] k) ∈ news) (hA : AllowIn w nw va r1) (hB : AllowIn w nw vb r2) (h0 : 0 ≤ i) (h1 : i < 2)
    (h : ∀ x dx es n lr vs kk rs, (x, instObj 52 dx) ∈ nw → (dx, dictOf es n) ∈ nw → (lr, listOf (List.toArray vs) kk) ∈ nw → getL (Str.ofString "rulelines") es = some (some (.ref lr)) → getL (Str.ofString "allowance") es = some none → RulesIn w nw vs rs → rs = r1 ∨ rs = r2 → Q (.ref x) s)
    (hs : subscripted slice false (.ref l) (.int i u) = operate [.ref l, .int i u] (getItem (.ref l) (.int i u))) : wpAny (model prog w) A (subscriptTail value slice (.ref l) (.int i u)) Q E s := by
  have hL : s.heap.IsList l [va, vb].toArray := ⟨_, (N _ hl).1, rfl, k, rfl⟩
  obtain ⟨x, dx, es, n, lr, vs, kk, e, m1, m2, m4, g2, g5, R⟩ := hA.is
  obtain ⟨x', dx', es', n', lr', vs', kk', e', m1', m2', m4', g2', g5', R'⟩ := hB.is
  have : i = 0 ∨ i = 1 := by omega
  rcases this with rfl | rfl
  · exact item_litK hL (by decide) (by decide) rfl (e ▸ h x dx es n lr vs kk r1 m1 m2 m4 g2 g5 R (.inl rfl)) hs
  · exact item_litK hL (by decide) (by decide) rfl (e' ▸ h x' dx' es' n' lr' vs' kk' r2 m1' m2' m4' g2' g5' R' (.inr rfl)) hs
theorem allow_led {w : World} {p : Program} {loose : List Str} {mean : ExcName → Option Value} {mg mb : Str → Option Value}
    {dp un : Nat} {gd : Option (List Code)} {cn : Str} {cs : Scope} {a : Addr} {ccd : Value} {cl : List (Str × Addr)} {outer : List Env} {A₀ : Around} {base h₀ : Heap} {L : Addr} {m : Str → Option Value} {news nw : List (Addr × Obj)} {s : Shared} {Q E : Value → Shared → Prop}
    (B : Below A₀ base outer h₀) (F : Fr h₀ L s.heap m) (X : (hd.heap_39 w.params).In h₀) (N : News h₀ L s.heap news) (T : Top p loose mean mg mb h₀) (hk : cs.kind = .function)
    (hdp : dp + 4 < recursionLimit) (hun : un + 32 < cLine) {name : Str} {t : Tok} (hname : name.length ≤ 100) {x dx lr : Addr} {es : List DictEntry} {n kk : Nat} {vs : List Value} {rs r1 r2 : List (Str × Bool)} (hsub : ∀ q ∈ nw, q ∈ news)
    (m1 : (x, instObj 52 dx) ∈ nw) (m2 : (dx, dictOf es n) ∈ nw) (hg : getL (Str.ofString "rulelines") es = some (some (.ref lr))) (m3 : (lr, listOf vs.toArray kk) ∈ nw) (hR : RulesIn w nw vs rs) (hr : rs = r1 ∨ rs = r2) {c : Bool} (hc : (foldA name r1).2 = c ∧ (foldA name r2).2 = c)
    (hret : ∀ h' tk', Fr h₀ L h' m → News h₀ L h' news → Q (.bool c) { s with heap := h', toks := tk' }) :
    wpAny (model PySem.Challenge.rw_ny0076_01.row.prog w) (ktrTop dp un gd cn cs L a ccd cl outer) (call (.ref 49) [.ref x, .str name t]) Q E s := by
  have e : (foldA name rs).2 = c := by
    rcases hr with rfl | rfl
    · exact hc.1
    · exact hc.2
  exact allow_call B F X N T hk hdp hun hname (hsub _ m1) (hsub _ m2) (hsub _ m3) hg (hR.mono hsub) fun h' tk' F' N' => e ▸ hret h' tk' F' N'
theorem stay_end {g h' : Heap} {L ia : Addr} {io : Obj} {m₀ m' : Str → Option Value} {nx : List (Addr × Obj)} {s₁ : Shared} {Q : Flow → Shared → Prop} {tk i : Nat} (F : Fr g L h' m') (N : News g L h' ((ia, io) :: nx)) (hit : ∀ p ∈ nx, p.1 ≠ (ia, io).1)
    (hm : ∀ y, y ≠ Str.ofString "k" → y ≠ Str.ofString "port" → y ≠ Str.ofString "shut" → m' y = m₀ y) : GrowPost g L (StayJ m₀ nx i) (ia, io) s₁ Q .next { s₁ with heap := h', toks := tk } :=
  ⟨h', tk, m', nx, rfl, F, N, hit, rfl, hm⟩
theorem off_new {a I C D : Nat} {P : Prop} (h : I < a ∧ C < a ∧ D < a ∧ P) : a ≠ I ∧ a ≠ C ∧ a ≠ D := ⟨Nat.ne_of_gt h.1, Nat.ne_of_gt h.2.1, Nat.ne_of_gt h.2.2.1⟩
theorem tail4 {a b c d : Addr × Obj} {tl : List (Addr × Obj)} : ∀ q ∈ tl, q ∈ a :: b :: c :: d :: tl := fun _ h => .tail _ (.tail _ (.tail _ (.tail _ h)))
theorem five {vs : List Value} {ns : List Int} (h : IntsAre vs ns) (hn : ns.length = 5) : ∃ a b c d e ta tb tc td te, vs = [.int a ta, .int b tb, .int c tc, .int d td, .int e te] := by
  rcases h with _ | ⟨a, ta, h⟩
  · exact absurd hn (by decide)
  rcases h with _ | ⟨b, tb, h⟩
  · exact absurd hn (by simp)
  rcases h with _ | ⟨c, tc, h⟩
  · exact absurd hn (by simp)
  rcases h with _ | ⟨d, td, h⟩
  · exact absurd hn (by simp)
  rcases h with _ | ⟨e, te, h⟩
  · exact absurd hn (by simp)
  rcases h with _ | ⟨f, tf, h⟩
  · exact ⟨a, b, c, d, e, ta, tb, tc, td, te, rfl⟩
  · exact absurd hn (by simp)
end Mine
end
/- W4 -/
noncomputable section
open PySem PySem.W PyProof.Rows PySem.Calls
namespace Mine
local macro_rules | `(tactic| walk_at "exec Assign cons ListComp") => `(tactic| (k_here; k_dflt (refine LCg.Assign_ListComp_U (F₀ := by k_asm) (by rfl) (by with_unfolding_all rfl) (by rfl) (by decide) (by rfl) (by decide) (by rfl) (by rfl) (by rfl) ?_); k_dflt lcg_toSrc))
local macro_rules | `(tactic| lcg_off) => `(tactic| (simp only [LCg.Off3, and_true]; first | assumption | exact And.intro (off_new (by assumption)) (by assumption)))
local macro_rules | `(tactic| k_mem) => `(tactic| with_reducible_and_instances assumption)
local macro_rules | `(tactic| walk_at "binaryOp Add ref ref") => `(tactic| (k_here; k_dflt (refine' mg_add ?F ?N ?a ?b ?z ?_; (case F => k_asm); (case N => k_asm); (case a => k_mem); (case b => k_mem); (case z => decide); k_whole; intro D' h' F' N' l1; (try k_lt l1))))
local macro_rules | `(tactic| walk_at "exec For Name Call cons nil") => `(tactic| (k_here; (rename Fr _ _ _ _ => lF'); (with_unfolding_all refine' For_invVF lF' ?k1 ?k2 ?_; (case k1 => exact rfl); (case k2 => exact rfl); k_whole)))
local macro_rules | `(tactic| walk_at "pyIter ref") => `(tactic| refine Stop.out ?_)
local macro_rules | `(tactic| walk_at "subscriptTail Name Constant ref int") => `(tactic| (k_here; (with_reducible show wpAny _ _ (subscriptTail _ _ (Value.ref _) (Value.int _ _)) _ _ _); (with_unfolding_all refine' item_litK ?k1 ?k2 ?k3 ?k4 ?_ ?k6; (case k1 => is_list); (case k2 => decide); (case k3 => decide); (case k4 => rfl); (case k6 => with_unfolding_all rfl); k_whole)))
local macro_rules | `(tactic| walk_at "subscriptTail Name Name ref int") => `(tactic| (k_here; (with_reducible show wpAny _ _ (subscriptTail _ _ (Value.ref _) (Value.int _ _)) _ _ _); (with_unfolding_all refine' int_item (n := 9) ?N ?l ?v ?n ?a ?b ?z ?_ ?hs; (case N => k_asm); (case l => k_mem); (case v => exact True.intro); (case n => rfl); (case a => omega); (case b => omega); (case z => decide); (case hs => with_unfolding_all rfl); k_whole; intro ix it)))
local macro_rules | `(tactic| walk_at "subscriptTail") => `(tactic| (k_here; (with_reducible show wpAny _ _ (subscriptTail _ _ (Value.ref _) (Value.int (Int.fmod _ 2) _)) _ _ _); (with_unfolding_all refine' rec_item ?N ?l ?A ?B ?a ?b ?_ ?hs; (case N => k_asm); (case l => k_mem); (case A => assumption); (case B => assumption); (case a => exact (fm2 _).1); (case b => exact (fm2 _).2); (case hs => with_unfolding_all rfl); k_whole; intro qx qd qes qn ql qvs qk' qrs q1 q2 q3 q4 q5 q6 q7)))
local macro_rules | `(tactic| walk_at "getMethod ref") => `(tactic| (k_here; (with_reducible show wpAny _ _ (getMethod (Value.ref _) (Str.ofString "allowance") _) _ _ _); k_dflt (refine' method_inst ?k1 ?k2 ?k3 ?k4 ?k5 ?k6 ?k7 ?_; (case k1 => k_asm); (case k2 => k_asm); (case k3 => (refine' InstAt.of_news ?N ?h1 ?h2; (case N => k_asm); (case h1 => k_mem); (case h2 => k_mem))); (case k4 => k_is); (case k5 => k_is); (case k6 => k_is); (case k7 => assumption); k_whole)))
local macro_rules | `(tactic| walk_at "compareOp NotEq bool bool") => `(tactic| (with_reducible refine ne_bool ?_; rw [bne_self_eq_false]))
local macro_rules | `(tactic| walk_at "call ref") => `(tactic| refine Stop.out ?_)
theorem law_holds : PySem.Challenge.rw_ny0076_01.Holds := hd (by
  k_go0
  repeat (first | (k_unfold; (try dsimp only)) | walk1 | ((with_reducible show Stop _); (show wpAny _ _ _ _ _ _); first
      | ((with_reducible show wpAny _ _ (call (Value.ref 49) _) _ _ _); (refine' allow_led ?zzB ?zzF ?zzX ?zzN ?zzT ?zzhk ?zzd ?zzu ?zzl ?zzs ?zzm1 ?zzm2 ?zzg ?zzm3 ?zzR ?zzr ?zzc ?_; (case zzB => k_asm); (case zzF => k_asm); (case zzX => k_asm); (case zzN => k_asm); (case zzT => k_asm); (case zzhk => exact rfl); (case zzd => ktr_room); (case zzu => ktr_units); (case zzl => exact nameT_le _); (case zzs => exact tail4); (case zzm1 => assumption); (case zzm2 => assumption); (case zzg => assumption); (case zzm3 => assumption); (case zzR => assumption); (case zzr => assumption); (case zzc => first | exact law_in (by assumption) (fm65536 _).1 (fm65536 _).2 (fm65536 _).1 (fm65536 _).2 (fm65536 _).1 (fm65536 _).2 (by assumption) | exact law_out (by assumption) (fm65536 _).1 (fm65536 _).2 (fm65536 _).1 (fm65536 _).2 (fm65536 _).1 (fm65536 _).2 (by assumption)); k_whole; intro h' k' F' N'; (try dsimp only); (try k_fold)))
      | ((with_reducible show wpAny _ _ (call (Value.ref 63) _) _ _ _); (refine' mrg2 ?zzB ?zzF ?zzX ?zzN ?zzT ?zzhk ?zzS ?zzA ?zzd ?zzu ?_; (case zzB => k_asm); (case zzF => k_asm); (case zzX => k_asm); (case zzN => k_asm); (case zzT => k_asm); (case zzhk => exact rfl); (case zzS => assumption); (case zzA => assumption); (case zzd => ktr_room); (case zzu => ktr_units); k_whole; intro rv' nw' ps' h' k' F' N' mT' mD' hA1' hA2'; (try dsimp only); (try k_fold)))
      | ((with_reducible show wpAny _ _ (call (Value.ref 63) _) _ _ _); (refine' mrg1 ?zzB ?zzF ?zzX ?zzN ?zzT ?zzhk ?zzS ?zzd ?zzu ?_; (case zzB => k_asm); (case zzF => k_asm); (case zzX => k_asm); (case zzN => k_asm); (case zzT => k_asm); (case zzhk => exact rfl); (case zzS => assumption); (case zzd => ktr_room); (case zzu => ktr_units); k_whole; intro rv' nw' h' k' F' N' hS' hA'; (try dsimp only); (try k_fold)))
      | ((with_reducible show wpAny _ _ (call (Value.ref 142) _) _ _ _); (refine' rec2 ?zzB ?zzF ?zzX ?zzN ?zzT ?zzhk ?zzC ?zzO ?zzS ?zzq ?zzE ?zzd ?zzu ?zzl ?zzf ?_; (case zzB => k_asm); (case zzF => k_asm); (case zzX => k_asm); (case zzN => k_asm); (case zzT => k_asm); (case zzhk => exact rfl); (case zzC => assumption); (case zzO => assumption); (case zzS => assumption); (case zzq => assumption); (case zzE => assumption); (case zzd => ktr_room); (case zzu => ktr_units); (case zzl => exact nameT_len _); (case zzf => first | exact fig_len0 | exact fig_len1); k_whole; intro rv' nw' h' k' F' N' hS'; (try dsimp only); (try k_fold)))
      | ((with_reducible show wpAny _ _ (call (Value.ref 142) _) _ _ _); (refine' rec1 ?zzB ?zzF ?zzX ?zzN ?zzT ?zzhk ?zzC ?zzq ?zzd ?zzu ?zzl ?zzf ?_; (case zzB => k_asm); (case zzF => k_asm); (case zzX => k_asm); (case zzN => k_asm); (case zzT => k_asm); (case zzhk => exact rfl); (case zzC => assumption); (case zzq => exact lst_ne_tab); (case zzd => ktr_room); (case zzu => ktr_units); (case zzl => exact nameT_len _); (case zzf => first | exact fig_len0 | exact fig_len1); k_whole; intro rv' nw' ps' h' k' F' N' hO' hS' hq' hE'; (try dsimp only); (try k_fold)))
      | ((with_reducible show wpAny _ _ (call (Value.ref 128) _) _ _ _); (refine' name_call ?zzB ?zzF ?zzX ?zzN ?zzT ?zzhk ?zzd ?zzu ?_; (case zzB => k_asm); (case zzF => k_asm); (case zzX => k_asm); (case zzN => k_asm); (case zzT => k_asm); (case zzhk => exact rfl); (case zzd => ktr_room); (case zzu => ktr_units); k_whole; intro nt' h' k' F' N'; (try dsimp only); (try k_fold)))
      | ((with_reducible show wpAny _ _ (call (Value.ref 149) _) _ _ _); (refine' block_call ?zzB ?zzF ?zzX ?zzN ?zzT ?zzhk ?zzd ?zzu ?zza ?zzb ?zzc ?zze ?_; (case zzB => k_asm); (case zzF => k_asm); (case zzX => k_asm); (case zzN => exact led_ports (b := (130, tabObj #[])) (by assumption) (by k_mem)); (case zzT => k_asm); (case zzhk => exact rfl); (case zzd => ktr_room); (case zzu => ktr_units); (case zza => exact (fm65536 _).1); (case zzb => exact (fm65536 _).2); (case zzc => exact (fm65536 _).1); (case zze => exact (fm65536 _).2); k_whole; intro sz' zt' h' k' F' N' hB'; have hz' := blk_pos hB'; have hn' := Int.ne_of_gt hz'; (try dsimp only); (try k_fold)))
      | ((with_reducible show wpAny _ _ (call (Value.ref 107) _) _ _ _); (refine' parse_call ?zzB ?zzF ?zzX ?zzN ?zzT ?zzhk ?zzd ?zzu ?_; (case zzB => k_asm); (case zzF => k_asm); (case zzX => k_asm); (case zzN => k_asm); (case zzT => k_asm); (case zzhk => exact rfl); (case zzd => ktr_room); (case zzu => ktr_units); k_whole; intro pD pt pk h' k' F' N' plt; (try k_lt plt); (try dsimp only); (try k_fold)))
      | ((with_reducible show wpAny _ _ (call (Value.ref 121) _) _ _ _); (refine' reply_call ?zzB ?zzF ?zzX ?zzN ?zzT ?zzhk ?zzd ?zzu ?_; (case zzB => k_asm); (case zzF => k_asm); (case zzX => k_asm); (case zzN => k_asm); (case zzT => k_asm); (case zzhk => exact rfl); (case zzd => ktr_room); (case zzu => ktr_units); k_whole; intro rt h' k' F' N'; (try dsimp only); (try k_fold)))
      | ((with_reducible show wpAny _ _ (call (Value.ref 114) _) _ _ _); (refine' num_call ?zzB ?zzF ?zzX ?zzN ?zzT ?zzhk ?zzd ?zzu ?zzl ?zzi ?zzn ?_; (case zzB => k_asm); (case zzF => k_asm); (case zzX => k_asm); (case zzN => k_asm); (case zzT => k_asm); (case zzhk => exact rfl); (case zzd => ktr_room); (case zzu => ktr_units); (case zzl => k_asm); (case zzi => k_asm); (case zzn => omega); k_whole; intro ln vs5 ns5 cc h' k' F' N' hI5 hn5 hlt; (try k_lt hlt); obtain ⟨na, nb, nc, nd, ne, ta, tb, tc, td, te, hE5⟩ := five hI5 hn5; subst hE5; clear hI5 hn5; (try dsimp only); (try k_fold)))) | (dsimp only; walk1))
  show wpAny _ _ _ _ _ _
  rename IsRange _ _ _ _ _ _ _ _ => R1
  rename Fr _ _ _ _ => F1
  rename News _ _ _ _ => N1
  refine grow_range (n := 9) (StayJ _ _) rfl R1 (by decide) (by decide) F1 N1 ⟨rfl, fun _ _ _ _ => rfl⟩ ?_ ?_
  · rintro i tt m1 nx hh tk it hi ⟨rfl, hm⟩ hit F2 N2
    have F3 := fr_keep3 hm F2
    clear F2 hm
    obtain ⟨ia, io⟩ := it
    repeat' (first | (k_unfold; (try dsimp only)) | walk1 | ((with_reducible show Stop _); (show wpAny _ _ _ _ _ _); first
      | ((with_reducible show wpAny _ _ (call (Value.ref 49) _) _ _ _); (refine' allow_led ?zzB ?zzF ?zzX ?zzN ?zzT ?zzhk ?zzd ?zzu ?zzl ?zzs ?zzm1 ?zzm2 ?zzg ?zzm3 ?zzR ?zzr ?zzc ?_; (case zzB => k_asm); (case zzF => k_asm); (case zzX => k_asm); (case zzN => k_asm); (case zzT => k_asm); (case zzhk => exact rfl); (case zzd => ktr_room); (case zzu => ktr_units); (case zzl => exact nameT_le _); (case zzs => exact tail4); (case zzm1 => assumption); (case zzm2 => assumption); (case zzg => assumption); (case zzm3 => assumption); (case zzR => assumption); (case zzr => assumption); (case zzc => first | exact law_in (by assumption) (fm65536 _).1 (fm65536 _).2 (fm65536 _).1 (fm65536 _).2 (fm65536 _).1 (fm65536 _).2 (by assumption) | exact law_out (by assumption) (fm65536 _).1 (fm65536 _).2 (fm65536 _).1 (fm65536 _).2 (fm65536 _).1 (fm65536 _).2 (by assumption)); k_whole; intro h' k' F' N'; (try dsimp only); (try k_fold)))
      | ((with_reducible show wpAny _ _ (call (Value.ref 128) _) _ _ _); (refine' name_call ?zzB ?zzF ?zzX ?zzN ?zzT ?zzhk ?zzd ?zzu ?_; (case zzB => k_asm); (case zzF => k_asm); (case zzX => k_asm); (case zzN => k_asm); (case zzT => k_asm); (case zzhk => exact rfl); (case zzd => ktr_room); (case zzu => ktr_units); k_whole; intro nt' h' k' F' N'; (try dsimp only); (try k_fold)))) | (dsimp only; walk1))
    · exact stay_end (by assumption) (by assumption) hit (by intro y h1 h2 h3; simp [h1, h2, h3])
    · exact stay_end (by assumption) (by assumption) hit (by intro y h1 h2 h3; simp [h1, h2, h3])
  · rintro m1 nx hh tk ⟨rfl, hm⟩ F2 N2
    show wpAny _ _ _ _ _ _
    k_steps)
end Mine
end
theorem PySem.Challenge.cw_ny0076_01_holds : PySem.Challenge.rw_ny0076_01.Holds :=
  Mine.law_holds
