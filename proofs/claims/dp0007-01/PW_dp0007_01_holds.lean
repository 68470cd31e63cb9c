import PyProof.Rows.All
import Wide.All
import OpenK.AllK
import Wide.FinOn
import PySem.Challenge.RW_dp0007_01
open PySem PySem.W PyProof.Rows
set_option Elab.async false

namespace Mine
open PySem.SeqAt

abbrev Key := Int ⊕ Str
def keyIs : Key → Value → Bool
  | .inl n, v => Value.isInt n v
  | .inr x, v => Value.isStrOf x v
theorem keyIs_shape {k : Key} {v : Value} (h : keyIs k v = true) : (∃ n t, k = .inl n ∧ v = .int n t) ∨ ∃ x t, k = .inr x ∧ v = .str x t := by
  cases k with
  | inl n => obtain ⟨t, rfl⟩ := Value.isInt_shape h; exact .inl ⟨n, t, rfl, rfl⟩
  | inr x => obtain ⟨t, rfl⟩ := Value.isStrOf_shape h; exact .inr ⟨x, t, rfl, rfl⟩

def mixKind (prog : Program) (w : World) : KeyKind prog w Key where
  is := keyIs
  hash := fun | .inl n => hashInt n | .inr x => hashStr w x
  inj := fun v a b ha hb => by
    rcases keyIs_shape ha with ⟨n, t, rfl, rfl⟩ | ⟨x, t, rfl, rfl⟩ <;> rcases keyIs_shape hb with ⟨m, u, rfl, e⟩ | ⟨y, u, rfl, e⟩ <;> cases e <;> rfl
  byValue := fun k v h => by rcases keyIs_shape h with ⟨n, t, rfl, rfl⟩ | ⟨x, t, rfl, rfl⟩ <;> rfl
  pyHash := fun hv h => by
    rcases keyIs_shape hv with ⟨n, t, rfl, rfl⟩ | ⟨x, t, rfl, rfl⟩
    · exact wpAny_pyHash_int h
    · exact wpAny_pyHash_str h
  eqBool := fun {A E s a b u v Q} hu hv h => by
    rcases keyIs_shape hu with ⟨n, t, rfl, rfl⟩ | ⟨x, t, rfl, rfl⟩ <;> rcases keyIs_shape hv with ⟨m, u, rfl, rfl⟩ | ⟨y, u, rfl, rfl⟩
    · have e : (n == m) = decide ((Sum.inl n : Key) = Sum.inl m) := by by_cases e : n = m <;> simp [e]
      exact EqAt.int_int n t m u prog w E Q (e ▸ h)
    · exact EqAt.int_str n t y u prog w E Q (by simpa using h)
    · exact EqAt.str_int x t m u prog w E Q (by simpa using h)
    · have e : (x == y) = decide ((Sum.inr x : Key) = Sum.inr y) := by by_cases e : x = y <;> simp [e]
      exact EqAt.str_str x t y u prog w E Q (e ▸ h)
  «strs» := fun k x t v h => by
    rcases keyIs_shape h with ⟨n, u, rfl, e⟩ | ⟨y, u, rfl, e⟩
    · cases e
    · cases e; exact (isStr_of x v).symm

theorem list_hash_none : typeLookup (.type "list") "__hash__" = pure (some .none) := by rw [typeLookup_type, builtinLookup_eq_fast]; kernel_rfl

section
variable {prog : Program} {w : World} {A : Around} {E : Value → Shared → Prop} {s : Shared}

theorem pyHash_list {a : Addr} {Q : Int → Shared → Prop} (hT : s.TypeIs (.ref a) "list") (hh : A.handled = none) (hu : A.units < cLine)
    (h : ∀ h' tk e, Heap.NewExc s.heap h' e "TypeError" → E (.ref e) { s with heap := h', toks := tk }) :
    wpAny (model prog w) A (pyHash (.ref a)) Q E s := by
  show wpAny _ _ (pyHashByItsType (.ref a)) _ _ _
  unfold pyHashByItsType
  refine wpAny_bind (wpAny_cRoomFor hu ?_)
  refine wpAny_bind (wpAny_specialOf hT list_hash_none ?_)
  dsimp only
  refine wpAny_ite_split (fun _ => ?_) fun q => absurd rfl q
  refine wpAny_bind (wpAny_rule ?_)
  refine wpAny_bind (wpAny_typeNameOf' hT (h := ?_))
  refine wpAny_bind ?_
  exact wpAny_raiseTypeError hh h (by decide +kernel)
end
end Mine

namespace Mine
open PySem.SeqAt

theorem dict_get_lookup : typeLookup (.type "dict") "get" = pure (some (.builtin "dict.get")) := by rw [typeLookup_type, builtinLookup_eq_fast]; kernel_rfl
theorem md_get_lookup : typeLookup (.type "method_descriptor") "__get__" = pure (some (.builtin "method_descriptor.__get__")) := by rw [typeLookup_type, builtinLookup_eq_fast]; kernel_rfl
theorem md_set_lookup : typeLookup (.type "method_descriptor") "__set__" = pure none := by rw [typeLookup_type, builtinLookup_eq_fast]; kernel_rfl
theorem md_del_lookup : typeLookup (.type "method_descriptor") "__delete__" = pure none := by rw [typeLookup_type, builtinLookup_eq_fast]; kernel_rfl
theorem md_entry : entryFor table "method_descriptor.__get__" = some Builtin.«method_descriptor.__get__» := entryFor_of_fast (by kernel_rfl)
theorem typeIs_dget (s : Shared) : s.TypeIs (.builtin "dict.get") "method_descriptor" := by
  show typeOf (.builtin "dict.get") = _
  kernel_rfl
theorem dict_isdict : isSubtype (.type "dict") (.type "dict") = pure true := by rw [isSubtype_type]; kernel_rfl
theorem md_ismd : isSubtype (.type "method_descriptor") (.type "method_descriptor") = pure true := by rw [isSubtype_type]; kernel_rfl

abbrev boundGet (d : Addr) : Obj := { cls := .type "builtin_function_or_method", data := .fields #[.builtin "dict.get", .ref d] }

theorem meets_md_get (d : Addr) : Meets (Builtin.«method_descriptor.__get__» ⟨[.builtin "dict.get", .ref d, .type "dict"], []⟩)
    (fun A R s => s.TypeIs (.ref d) "dict" ∧ R (.ok (.ret (.ref s.heap.objs.size))) { s with heap := s.heap.push (boundGet d) }) :=
  Meets.of_wp fun prog w A R s hs => by
    obtain ⟨hp, g, dr, tk, os⟩ := s
    obtain ⟨hT, h⟩ := hs
    have f1 : isSubtype (.type "dict") (.type (".".intercalate ("dict.get".cutAt '.').dropLast)) = pure true := by
      rw [show ".".intercalate ("dict.get".cutAt '.').dropLast = "dict" by decide +kernel]; exact dict_isdict
    unfold Builtin.«method_descriptor.__get__»
    repeat (any_goals (first | assumption | ((with_reducible show wpAny _ _ (newFields _ _) _ _ _); exact wpAny_newObj_type (wpAny_pure ⟨_, rfl, h⟩)) | wp_step))

theorem md_slot : Slot "method_descriptor" "__get__" "method_descriptor.__get__" :=
  .of (owner := "method_descriptor") (n := "__get__") md_get_lookup (by decide +kernel) (by decide +kernel) (by decide +kernel)
    (by first | exact .inl (by decide +kernel) | exact .inr (by decide +kernel)) (by rw [isSubtype_type]; kernel_rfl)
theorem md_args (a b c : Value) : argsOk "method_descriptor.__get__" ⟨[a, b, c], []⟩ := by
  unfold argsOk; kernel_rfl

theorem meets_getattribute_get (d : Addr) (es : Array DictEntry) (k : Nat) (sl : Array (Option Value)) (u : Tok) :
    Meets (Builtin.«object.__getattribute__» ⟨[.ref d, .str "get" u], []⟩)
      (fun A R s => s.heap.get? d = some { cls := .type "dict", dict := none, data := .dict es k, slots := sl } ∧ R (.ok (.ret (.ref s.heap.objs.size))) { s with heap := s.heap.push (boundGet d) }) :=
  Meets.of_wp fun prog w A R s hs => by
    obtain ⟨hp, g, dr, tk, os⟩ := s
    obtain ⟨hx, hs⟩ := hs
    have hT : (⟨hp, g, dr, tk, os⟩ : Shared).TypeIs (.ref d) "dict" := ⟨_, hx, rfl⟩
    have f1 := dict_get_lookup
    have f2 := md_get_lookup
    have f3 := md_set_lookup
    have f4 := md_del_lookup
    have f5 : typeOf (.builtin "dict.get") = pure (.type "method_descriptor") := typeIs_dget ⟨hp, g, dr, tk, os⟩
    unfold Builtin.«object.__getattribute__»
    repeat (any_goals (first | assumption | ((with_reducible show wpAny _ _ (call (Value.builtin "method_descriptor.__get__") _ _) _ _ _); refine call_meets md_slot f5 md_entry (md_args _ _ _) (meets_md_get d) ⟨hT, ?_⟩) | wp_step))
    exact wpAny_pure ⟨_, rfl, hs⟩

theorem getAttr_dict_get {prog : Program} {w : World} {A : Around} {E : Value → Shared → Prop} {s : Shared} {d : Addr} {o : Obj} {es : Array DictEntry} {k : Nat} {Q : Value → Shared → Prop}
    (hx : s.heap.get? d = some o) (hc : o.cls = .type "dict") (hdat : o.data = .dict es k) (hd : o.dict = none)
    (h : Q (.ref s.heap.objs.size) { s with heap := s.heap.push (boundGet d), toks := s.toks + 1 }) :
    wpAny (model prog w) A (getAttr (.ref d) "get" true) Q E s := by
  obtain ⟨c, dct, dat, sl⟩ := o
  simp only at hc hdat hd
  subst hc hdat hd
  obtain ⟨hp, g, dr, tk, os⟩ := s
  have hT : ∀ tk', (⟨hp, g, dr, tk', os⟩ : Shared).TypeIs (.ref d) "dict" := fun _ => ⟨_, hx, rfl⟩
  have f3 := F.slot_dict_getattribute.lookup
  have f4 := F.slot_dict_getattribute.bind (.ref d)
  unfold getAttr getAttrBy
  repeat (any_goals (first | assumption | exact hT _ | ((with_reducible show wpAny _ _ (call (Value.builtin "dict.__getattribute__") _ _) _ _ _); refine call_meets F.slot_dict_getattribute (hT _) am_entry_dict_getattribute (F.args_dict_getattribute_2 _ _) (meets_getattribute_get d es k sl _) ⟨hx, ?_⟩) | wp_step))
  exact wpAny_pure h
end Mine

namespace Mine
open PySem.SeqAt
theorem sub_dict_module : isSubtype (.type "dict") (.type "module") = pure false := by rw [isSubtype_type]; kernel_rfl
def getSig : Manifest.Signature := match Manifest.sig_dict.lookup "get" with | some x => x | none => ⟨.hand, "", "", .none, []⟩
theorem getSig_is : Manifest.signature? "dict.get" = some getSig := by
  rw [signature?_of (id := "dict.get") (n := ['t', 'e', 'g']) (o := ['t', 'c', 'i', 'd']) (by kernel_rfl) F.owner_dict]; kernel_rfl
theorem getSig_ok (a b c : Value) : Bind.checkArgs "dict.get" { getSig with full := toString (Bind.lastOf "dict") ++ "." ++ toString (Bind.lastOf "dict.get") } ⟨[a, b, c], []⟩ = pure () := by kernel_rfl
theorem get_novar : Manifest.varargsMethods.contains "dict.get" = false := by decide +kernel
theorem get_kind : builtinKind "dict.get" = some .method := by decide +kernel
theorem checkBoundCall_get {M : Model} {A : Around} {E : Value → Shared → Prop} {s : Shared} {d : Addr} {key dflt : Value} {o : Obj} {es : Array DictEntry} {n : Nat} {Q : Unit → Shared → Prop} (ho : s.heap.get? d = some o) (hc : o.cls = .type "dict") (hd : o.data = .dict es n) (h : Q () s) :
    wpAny M A (checkBoundCall "dict.get" ⟨[.ref d, key, dflt], []⟩) Q E s := by
  have hT : s.TypeIs (.ref d) "dict" := ⟨o, ho, hc⟩
  unfold checkBoundCall
  simp only [getSig_is, get_kind, get_novar, Bool.false_or]
  refine wpAny_ite_split (fun q => absurd q (by decide)) fun _ => ?_
  refine wpAny_bind (wpAny_isInstance hT sub_dict_module ?_)
  refine wpAny_ite_split (fun q => absurd q (by decide)) fun _ => ?_
  have fin : wpAny M A (Bind.checkArgs "dict.get" { getSig with full := toString (Bind.lastOf "dict") ++ "." ++ toString (Bind.lastOf "dict.get") } ⟨[.ref d, key, dflt], []⟩) Q E s := wpAny_of_eq (getSig_ok _ _ _) h
  refine wpAny_bind ?_
  show wpAny M A (do let o ← loadHead d; pure (match o.data with | .cls _ => true | _ => false)) _ _ _
  refine wpAny_bind (wpAny_loadPart ho (wpAny_pure ?_))
  rw [hd]
  refine wpAny_ite_split (fun q => nomatch (show false = true from q)) fun _ => ?_
  exact wpAny_bind (wpAny_typeOf hT fin)

/-- a call of the bound method -/
theorem call_boundGet {prog : Program} {w : World} {A : Around} {E : Value → Shared → Prop} {s : Shared} {d q : Addr} {key dflt : Value} {Q : Value → Shared → Prop} {oq o : Obj} {es : Array DictEntry} {n : Nat}
    (hq : s.heap.get? q = some oq) (hqc : oq.cls = .type "builtin_function_or_method") (hqd : oq.data = .fields #[.builtin "dict.get", .ref d])
    (ho : s.heap.get? d = some o) (hc : o.cls = .type "dict") (hd : o.data = .dict es n)
    (h : wpAny (model prog w) A.in1 (Builtin.«dict.get» ⟨[.ref d, key, dflt], []⟩) (fun fin s' => match fin with | .done f => wants Q E (.ok f) s' | .again c' => c'.quiet = true ∧ codeAny (model prog w) A c' (wants Q E) s') (fun e s' => wants Q E (.error e) s') s) :
    wpAny (model prog w) A (call (.ref q) [key, dflt]) Q E s := by
  refine wpAny_call (codeAny_of_tree ?_)
  show wpAny _ _ (callAny (.ref q) ⟨[key, dflt], []⟩) _ _ _
  unfold callAny
  refine wpAny_bind (wpAny_load hq ?_)
  rw [hqc, hqd]
  dsimp only
  refine wpAny_ite_split (fun _ => ?_) fun q => absurd rfl q
  show wpAny _ _ (if (Value.type "builtin_function_or_method" != Value.type "method") = true then (do checkBoundCall "dict.get" ⟨[.ref d, key, dflt], []⟩; again (Code.builtin "dict.get" ⟨[.ref d, key, dflt], []⟩)) else _) _ _ _
  refine wpAny_ite_split (fun _ => ?_) fun q => absurd rfl q
  refine wpAny_bind (checkBoundCall_get ho hc hd (wpAny_pure ?_))
  refine ⟨plainId_quiet (by decide +kernel) _, codeAny_builtin F.entry_dict_get ?_⟩
  rw [Around.under_plainId (by decide +kernel) _]
  exact h

section
variable {prog : Program} {w : World} {A : Around} {E : Value → Shared → Prop} {s : Shared} {d q : Addr} {key dflt : Value} {Q : Value → Shared → Prop} {oq : Obj}

theorem get_call {k : Key} {kvs : List (Key × Value)} (hq : s.heap.get? q = some oq) (hqc : oq.cls = .type "builtin_function_or_method") (hqd : oq.data = .fields #[.builtin "dict.get", .ref d])
    (hD : s.heap.DictOf (mixKind prog w) d kvs) (hmod : (d == sysModules) = false) (hk : keyIs k key = true)
    (h : Q ((valueAt kvs k).getD dflt) { s with toks := s.toks + 1 }) :
    wpAny (model prog w) A (call (.ref q) [key, dflt]) Q E s := by
  obtain ⟨o, es, ep, ho, hx, hd, _⟩ := id hD
  exact call_boundGet hq hqc hqd ho hx.1 hd (meets_dict_get_default (mixKind prog w) d (k := k) hk hmod dflt A _ s ⟨_, hD.mapOf, h⟩)

theorem get_call_list {kvs : List (Key × Value)} {a : Addr} (hq : s.heap.get? q = some oq) (hqc : oq.cls = .type "builtin_function_or_method") (hqd : oq.data = .fields #[.builtin "dict.get", .ref d])
    (hD : s.heap.DictOf (mixKind prog w) d kvs) (hT : s.TypeIs (.ref a) "list") (hh : A.handled = none) (hu : A.units + 1 < cLine)
    (h : ∀ h' tk e, Heap.NewExc s.heap h' e "TypeError" → E (.ref e) { s with heap := h', toks := tk }) :
    wpAny (model prog w) A (call (.ref q) [.ref a, dflt]) Q E s := by
  obtain ⟨o, es, ep, ho, hx, hd, _⟩ := id hD
  refine call_boundGet hq hqc hqd ho hx.1 hd ?_
  show wpAny _ _ (dictGet d (.ref a) >>= _) _ _ s
  refine wpAny_bind ?_
  unfold dictGet
  refine wpAny_holding (wpAny_bind (pyHash_list hT hh hu fun h' tk e x => ?_))
  exact h h' tk e x
end

end Mine

namespace Mine
open PySem.SeqAt
theorem meets_str_add_int (x : Str) (t u : Tok) (i : Int) : Meets (Builtin.«str.__add__» ⟨[.str x t, .int i u], []⟩) (raisesNew "TypeError") :=
  Meets.of_wp fun prog w A R s hs => by
    obtain ⟨hp, g, dr, tk, os⟩ := s
    have hT : (⟨hp, g, dr, tk, os⟩ : Shared).TypeIs (.int i u) "int" := rfl
    have hT2 : (⟨hp, g, dr, tk, os⟩ : Shared).TypeIs (.str x t) "str" := rfl
    have f1 : isSubtype (.type "int") (.type "str") = pure false := by rw [isSubtype_type]; kernel_rfl
    have f2 : isSubtype (.type "str") (.type "str") = pure true := by rw [isSubtype_type]; kernel_rfl
    unfold Builtin.«str.__add__»
    repeat (any_goals (first | assumption | wp_step))
    exact wpAny_raiseErrorMade plainExc_TypeError hs.1 hs.2 (by decide +kernel)

set_option maxHeartbeats 1000000 in
theorem add_str_int_raises {prog : Program} {w : World} {A : Around} {E : Value → Shared → Prop} {s : Shared} {x : Str} {t u : Tok} {i : Int} {Q : Value → Shared → Prop} (hh : A.handled = none)
    (h : ∀ h' tk e, Heap.NewExc s.heap h' e "TypeError" → E (.ref e) { s with heap := h', toks := tk }) :
    wpAny (model prog w) A (binaryOp .Add (.str x t) (.int i u)) Q E s := by
  obtain ⟨hp, g, dr, tk, os⟩ := s
  have f1 := PySem.noFill_str_add
  have f2 := F.fills_int_add
  have f3 : seqSlot? (.type "str") "__add__" = pure (some (.builtin "str.__add__")) := by
    unfold seqSlot?
    rw [show typeLookup (.type "str") "__add__" = pure (some (.builtin "str.__add__")) from F.slot_str_add.lookup]
    rfl
  have hT : (⟨hp, g, dr, tk, os⟩ : Shared).TypeIs (.int i u) "int" := rfl
  have hT2 : (⟨hp, g, dr, tk, os⟩ : Shared).TypeIs (.str x t) "str" := rfl
  unfold binaryOp
  refine wpAny_holding ?_
  show wpAny _ _ (binaryOp1 "add" (.str x t) (.int i u) >>= _) _ _ _
  refine wpAny_bind ?_
  unfold binaryOp1
  refine wpAny_bind (wpAny_typeOf hT2 (wpAny_bind (wpAny_typeOf hT (wpAny_bind (wpAny_of_eq f1 ?_)))))
  dsimp only
  refine wpAny_ite_split (fun q => absurd q (by decide)) fun _ => ?_
  refine wpAny_bind (wpAny_of_eq f2 ?_)
  simp only [Bool.and_true, Bool.false_eq_true, if_false]
  refine wpAny_bind (wpAny_pure ?_)
  simp only [Bool.not_false, if_true]
  refine wpAny_bind (wpAny_tryMethod_declines hT F.slot_int_radd (call_gives F.slot_int_radd hT F.entry_int_radd (F.args_int_radd_2 _ _) (AutoIntG4.int___radd___int_str_0 i u x t) ⟨rfl, ?_⟩))
  refine wpAny_pure ?_
  dsimp only
  refine wpAny_bind (wpAny_typeOf hT2 (wpAny_bind (wpAny_of_eq f3 ?_)))
  refine wpAny_bind (wpAny_rule ?_)
  exact call_meets F.slot_str_add hT2 F.entry_str_add (F.args_str_add_2 _ _) (meets_str_add_int x t u i) ⟨hh, h⟩

theorem int_noiter : typeLookup (.type "int") "__iter__" = pure none := by rw [typeLookup_type, builtinLookup_eq_fast]; kernel_rfl
theorem int_noitem : typeLookup (.type "int") "__getitem__" = pure none := by rw [typeLookup_type, builtinLookup_eq_fast]; kernel_rfl
theorem pyIter_int_raises {prog : Program} {w : World} {A : Around} {E : Value → Shared → Prop} {s : Shared} {i : Int} {u : Tok} {Q : Value → Shared → Prop} (hh : A.handled = none)
    (h : ∀ h' tk e, Heap.NewExc s.heap h' e "TypeError" → E (.ref e) { s with heap := h', toks := tk }) :
    wpAny (model prog w) A (pyIter (.int i u)) Q E s := by
  have hT : s.TypeIs (.int i u) "int" := rfl
  unfold pyIter
  refine wpAny_bind (wpAny_specialOf hT int_noiter ?_)
  refine wpAny_bind (wpAny_specialOf hT int_noitem ?_)
  refine wpAny_bind (wpAny_rule ?_)
  refine wpAny_bind (wpAny_typeNameOf' hT (h := ?_))
  exact wpAny_raiseTypeError hh h (by decide +kernel)
end Mine

namespace Mine

/-- what a count may be -/
inductive Cnt where
  | int (i : Int)
  | bool (b : Bool)
  | str (x : Str)
def Cnt.is : Cnt → Value → Prop
  | .int i, v => ∃ t, v = .int i t
  | .bool b, v => v = .bool b
  | .str x, v => ∃ t, v = .str x t
def Cnt.bump : Cnt → Option Int
  | .int i => some (i + 1)
  | .bool b => some ((if b = true then (1 : Int) else 0) + 1)
  | .str _ => none

abbrev Tab := List (Key × Cnt)
def tabAt (cs : Tab) (k : Key) : Option Cnt := (cs.find? fun c => decide (c.1 = k)).map (·.2)
def tabPut (cs : Tab) (k : Key) (c : Cnt) : Tab :=
  if cs.any (fun x => decide (x.1 = k)) then cs.map (fun x => if x.1 = k then (x.1, c) else x) else cs ++ [(k, c)]
inductive TabIs : List (Key × Value) → Tab → Prop where
  | nil : TabIs [] []
  | cons {k : Key} {v : Value} {c : Cnt} {kvs : List (Key × Value)} {cs : Tab} : c.is v → TabIs kvs cs → TabIs ((k, v) :: kvs) ((k, c) :: cs)
theorem TabIs.length {kvs : List (Key × Value)} {cs : Tab} (h : TabIs kvs cs) : kvs.length = cs.length := by
  induction h with
  | nil => rfl
  | cons _ _ ih => simp [ih]
theorem TabIs.keys {kvs : List (Key × Value)} {cs : Tab} (h : TabIs kvs cs) : kvs.map (·.1) = cs.map (·.1) := by
  induction h with
  | nil => rfl
  | cons _ _ ih => simp [ih]
theorem TabIs.valueAt {kvs : List (Key × Value)} {cs : Tab} (h : TabIs kvs cs) (k : Key) :
    (tabAt cs k = none ∧ valueAt kvs k = none) ∨ ∃ c v, tabAt cs k = some c ∧ valueAt kvs k = some v ∧ c.is v := by
  induction h with
  | nil => exact .inl ⟨rfl, rfl⟩
  | @cons k' v c kvs cs hc _ ih =>
    by_cases e : k' = k
    · subst e; exact .inr ⟨c, v, by simp [tabAt], by simp [PySem.valueAt], hc⟩
    · rcases ih with ⟨a, b⟩ | ⟨c', v', a, b, d⟩
      · exact .inl ⟨by simpa [tabAt, List.find?_cons, e] using a, by simpa [PySem.valueAt, List.find?_cons, e] using b⟩
      · exact .inr ⟨c', v', by simpa [tabAt, List.find?_cons, e] using a, by simpa [PySem.valueAt, List.find?_cons, e] using b, d⟩
theorem TabIs.any {kvs : List (Key × Value)} {cs : Tab} (h : TabIs kvs cs) (k : Key) : kvs.any (fun x => decide (x.1 = k)) = cs.any (fun x => decide (x.1 = k)) := by
  induction h with
  | nil => rfl
  | cons _ _ ih => simp [ih]
theorem TabIs.append {kvs : List (Key × Value)} {cs : Tab} (h : TabIs kvs cs) {k : Key} {v : Value} {c : Cnt} (hc : c.is v) : TabIs (kvs ++ [(k, v)]) (cs ++ [(k, c)]) := by
  induction h with
  | nil => exact .cons hc .nil
  | cons a _ ih => exact .cons a ih
theorem TabIs.mapPut {kvs : List (Key × Value)} {cs : Tab} (h : TabIs kvs cs) {k : Key} {v : Value} {c : Cnt} (hc : c.is v) :
    TabIs (kvs.map fun x => if x.1 = k then (x.1, v) else x) (cs.map fun x => if x.1 = k then (x.1, c) else x) := by
  induction h with
  | nil => exact .nil
  | @cons k' v' c' kvs cs a _ ih =>
    by_cases e : k' = k
    · simpa [e] using TabIs.cons (k := k) hc ih
    · simpa [e] using TabIs.cons (k := k') a ih
theorem TabIs.stored {kvs : List (Key × Value)} {cs : Tab} (h : TabIs kvs cs) {k : Key} {v : Value} {c : Cnt} (hc : c.is v) : TabIs (stored kvs k v) (tabPut cs k c) := by
  unfold PySem.stored tabPut
  rw [← h.any k]
  cases kvs.any (fun x => decide (x.1 = k)) with
  | true => simpa using h.mapPut hc
  | false => simpa using h.append hc
theorem tabPut_length (cs : Tab) (k : Key) (c : Cnt) : (tabPut cs k c).length ≤ cs.length + 1 := by
  unfold tabPut
  split <;> simp

/-- a thing of the row: a key, or a list -/
inductive Th where
  | key (k : Key)
  | box
inductive ThAt (h : Heap) : Value → Th → Prop where
  | key {k : Key} {v : Value} : keyIs k v = true → ThAt h v (.key k)
  | box {a : Addr} {xs : Array Value} : h.IsList a xs → ThAt h (.ref a) .box
inductive ThAll (h : Heap) : List Value → List Th → Prop where
  | nil : ThAll h [] []
  | cons {v : Value} {t : Th} {vs : List Value} {ts : List Th} : ThAt h v t → ThAll h vs ts → ThAll h (v :: vs) (t :: ts)
theorem ThAll.length {h : Heap} {vs : List Value} {ts : List Th} (x : ThAll h vs ts) : vs.length = ts.length := by
  induction x with
  | nil => rfl
  | cons _ _ ih => simp [ih]
theorem ThAll.get {h : Heap} {vs : List Value} {ts : List Th} (x : ThAll h vs ts) : ∀ {i : Nat} {v : Value}, vs[i]? = some v → ∃ t, ts[i]? = some t ∧ ThAt h v t := by
  induction x with
  | nil => intro i v e; simp at e
  | cons a _ ih =>
    intro i v e
    cases i with
    | zero => simp at e; subst e; exact ⟨_, rfl, a⟩
    | succ i => exact ih (by simpa using e)
/-- objects with a row of items stay -/
def SeqKept (h h' : Heap) : Prop := ∀ b o xs n, h.get? b = some o → o.data = .seq xs n → h'.get? b = some o
theorem SeqKept.isList {h h' : Heap} (k : SeqKept h h') {a : Addr} {xs : Array Value} (x : h.IsList a xs) : h'.IsList a xs := by
  obtain ⟨o, ho, hc, n, hd⟩ := x
  exact ⟨o, k _ _ _ _ ho hd, hc, n, hd⟩
theorem ThAt.kept {h h' : Heap} (k : SeqKept h h') {v : Value} {t : Th} (x : ThAt h v t) : ThAt h' v t := by
  cases x with
  | key a => exact .key a
  | box a => exact .box (k.isList a)
theorem ThAll.kept {h h' : Heap} (k : SeqKept h h') {vs : List Value} {ts : List Th} (x : ThAll h vs ts) : ThAll h' vs ts := by
  induction x with
  | nil => exact .nil
  | cons a _ ih => exact .cons (a.kept k) ih

/-- one turn of the count -/
def countOne (cs : Tab) : Th → Option Tab
  | .box => none
  | .key k => (((tabAt cs k).getD (.int 0)).bump).map fun n => tabPut cs k (.int n)
def countRun : Tab → List Th → Tab × Bool
  | cs, [] => (cs, true)
  | cs, t :: r => match countOne cs t with
    | none => (cs, false)
    | some cs' => countRun cs' r
theorem countOne_length {cs cs' : Tab} {t : Th} (h : countOne cs t = some cs') : cs'.length ≤ cs.length + 1 := by
  cases t with
  | box => cases h
  | key k =>
    simp only [countOne] at h
    cases hb : ((tabAt cs k).getD (.int 0)).bump with
    | none => rw [hb] at h; cases h
    | some n => rw [hb] at h; cases h; exact tabPut_length _ _ _
end Mine

namespace Mine

def fnBody (i : Nat) : List Stmt := match PySem.Challenge.pw_dp0007_01.main.body[i]? with
  | some (.FunctionDef _ _ b _ _ _ _ _ _ _) => b
  | _ => []
def fnScope (i : Nat) : Scope := match PySem.Challenge.pw_dp0007_01.main.body[i]? with
  | some (.FunctionDef _ _ _ _ _ _ s _ _ _) => s
  | _ => { kind := .function, names := [], isGenerator := false, isCoroutine := false, more := [] }

section
variable {prog : Program} {w : World} {A : Around} {E : Value → Shared → Prop} {s : Shared}

theorem callWith_bound {pos : Pos} {q : Addr} {oq : Obj} {vs : Array Value} {args : List (Bool × Sem Value)} {Q : Value → Shared → Prop} (hplain : args.any (·.1) = false)
    (h : wpAny (model prog w) A (evalArgs (.ref q) true args []) (fun a s₁ => (s₁.heap.get? q = some oq ∧ oq.cls = .type "builtin_function_or_method" ∧ oq.data = .fields vs) ∧ wpAny (model prog w) A (call (.ref q) a.pos a.kw) Q E s₁) E s) :
    wpAny (model prog w) A (callWith pos (.ref q) [] args []) Q E s := by
  unfold callWith
  refine wpAny_bind (wpAny_holding (wpAny_mono h (fun a s₁ h₁ => wpAny_bind (wpAny_standAt ?_)) fun _ _ x => x))
  obtain ⟨⟨hq, hc, hd⟩, h₁⟩ := h₁
  simp only [hplain, List.any_nil, Bool.or_false]
  refine wpAny_bind (m := keeperOf (.ref q)) ?_
  unfold keeperOf
  refine wpAny_bind (wpAny_load hq ?_)
  rw [hc, hd]
  refine wpAny_pure ?_
  exact wpAny_bind (wpAny_mono h₁ (fun r s₂ hr => wpAny_bind (wpAny_holding (wpAny_point (wpAny_pure hr)))) fun _ _ x => x)
theorem callWith_boundE {env : Env} {e : Expr} {rest : List Expr} {pos : Pos} {q : Addr} {oq : Obj} {vs : Array Value} {Q : Value → Shared → Prop}
    (h : wpAny (model prog w) A (spliced (backTo pos (starEach (e :: rest) env))) (fun as s₁ => (s₁.heap.get? q = some oq ∧ oq.cls = .type "builtin_function_or_method" ∧ oq.data = .fields vs) ∧ wpAny (model prog w) A (call (.ref q) as) Q E s₁) E s)
    (he : starEach (e :: rest) env = (false, eval e env) :: starEach rest env := by rfl)
    (hplain : (backTo pos (starEach rest env)).any (·.1) = false := by rfl) :
    wpAny (model prog w) A (callWith pos (.ref q) [] (backTo pos (starEach (e :: rest) env)) []) Q E s := by
  rw [he] at h ⊢
  exact callWith_bound (by show (false || (backTo pos (starEach rest env)).any (·.1)) = false; rw [hplain]; rfl) (Calls.evalArgs_plain h)
end

section
variable {M : Model} {A : Around} {E : Value → Shared → Prop} {s : Shared} {name : Str} {scope : Scope} {L a : Addr} {cd : Value} {m : Str → Option Value}
theorem ldL {x : Str} {pos : Pos} {v : Value} {Q : Value → Shared → Prop} (hn : s.heap.Ns L m) (hv : m x = some v) (h : Q v s)
    (hk : scope.kind = .function := by rfl) (hl : (envOf name scope L a cd).kindOf x = some .local := by rfl)
    (hd : (x == ("__debug__" : Str)) = false := by decide) : wpAny M A (eval (.Name x pos) (envOf name scope L a cd)) Q E s :=
  wpAny_Name (wpAny_loadName_local hk hl hn hv h) hd
theorem stL {x : Str} {v : Value} {Q : Unit → Shared → Prop} (hn : s.heap.Ns L m)
    (h : ∀ h', h'.Ns L (fun y => if y = x then some v else m y) → Heap.SameBut L s.heap h' → Q () { s with heap := h', toks := s.toks + 1 })
    (hk : scope.kind = .function := by rfl) (hl : (envOf name scope L a cd).kindOf x = some .local := by rfl) :
    wpAny M A (storeName (envOf name scope L a cd) x v) Q E s :=
  wpAny_storeName_local hl hn h (by show (scope.kind == .class || (scope.kind == .module && L != mainGlobals)) = false; rw [hk]; rfl)
end

theorem ns_not_seq {h : Heap} {L : Addr} {m : Str → Option Value} (hn : h.Ns L m) {b : Addr} {o : Obj} {xs : Array Value} {n : Nat} (ho : h.get? b = some o) (hd : o.data = .seq xs n) : b ≠ L := by
  rintro rfl
  obtain ⟨o', es, ep, h1, h2, _⟩ := hn
  rw [ho] at h1; cases h1; rw [hd] at h2; cases h2
theorem iter_not_seq {h : Heap} {I l : Addr} {i : Nat} (hn : h.IsListIter I l i) {b : Addr} {o : Obj} {xs : Array Value} {n : Nat} (ho : h.get? b = some o) (hd : o.data = .seq xs n) : b ≠ I := by
  rintro rfl
  obtain ⟨o', h1, _, h2⟩ := hn
  rw [ho] at h1; cases h1; rw [hd] at h2; cases h2
theorem dict_not_seq {prog : Program} {w : World} {h : Heap} {d : Addr} {kvs : List (Key × Value)} (hn : h.DictOf (mixKind prog w) d kvs) {b : Addr} {o : Obj} {xs : Array Value} {n : Nat} (ho : h.get? b = some o) (hd : o.data = .seq xs n) : b ≠ d := by
  rintro rfl
  obtain ⟨o', es, ep, h1, _, h2, _⟩ := hn
  rw [ho] at h1; cases h1; rw [hd] at h2; cases h2
theorem dict_not_iter {prog : Program} {w : World} {h : Heap} {d I l : Addr} {i : Nat} {kvs : List (Key × Value)} (hn : h.DictOf (mixKind prog w) d kvs) (hi : h.IsListIter I l i) : d ≠ I := by
  rintro rfl
  obtain ⟨o', es, ep, h1, _, h2, _⟩ := hn
  obtain ⟨o, h3, _, h4⟩ := hi
  rw [h3] at h1; cases h1; rw [h4] at h2; cases h2
theorem ns_not_iter {h : Heap} {L I l : Addr} {i : Nat} {m : Str → Option Value} (hn : h.Ns L m) (hi : h.IsListIter I l i) : L ≠ I := by
  rintro rfl
  obtain ⟨o', es, ep, h1, h2, _⟩ := hn
  obtain ⟨o, h3, _, h4⟩ := hi
  rw [h3] at h1; cases h1; rw [h4] at h2; cases h2

def IsBound (h : Heap) (q d : Addr) : Prop := ∃ o, h.get? q = some o ∧ o.cls = .type "builtin_function_or_method" ∧ o.data = .fields #[.builtin "dict.get", .ref d]
theorem bound_not_iter {h : Heap} {q d I l : Addr} {i : Nat} (hn : IsBound h q d) (hi : h.IsListIter I l i) : q ≠ I := by
  rintro rfl
  obtain ⟨o', h1, h2, _⟩ := hn
  obtain ⟨o, h3, h4, _⟩ := hi
  rw [h3] at h1; cases h1; rw [h4] at h2
  exact absurd (Value.type.inj h2) (by decide)
theorem bound_not_dict {prog : Program} {w : World} {h : Heap} {q d d' : Addr} {kvs : List (Key × Value)} (hn : IsBound h q d) (hi : h.DictOf (mixKind prog w) d' kvs) : q ≠ d' := by
  rintro rfl
  obtain ⟨o', h1, _, h2⟩ := hn
  obtain ⟨o, es, ep, h3, _, h4, _⟩ := hi
  rw [h3] at h1; cases h1; rw [h4] at h2; cases h2
theorem bound_not_ns {h : Heap} {q d L : Addr} {m : Str → Option Value} (hn : IsBound h q d) (hi : h.Ns L m) : q ≠ L := by
  rintro rfl
  obtain ⟨o', h1, _, h2⟩ := hn
  obtain ⟨o, es, ep, h3, h4, _⟩ := hi
  rw [h3] at h1; cases h1; rw [h4] at h2; cases h2

/-- the count's loop -/
structure CountAt (prog : Program) (w : World) (s : Shared) (L I d q l : Addr) (vs : List Value) (ts : List Th) (cs₀ : Tab) (i : Nat) (cs : Tab) (h' : Heap) : Prop where
  iter : h'.IsListIter I l i
  lst : h'.IsList l vs.toArray
  ns : ∃ m, h'.Ns L m ∧ m "mapping" = some (.ref d) ∧ m "mapping_get" = some (.ref q)
  bound : IsBound h' q d
  dict : ∃ kvs, h'.DictOf (mixKind prog w) d kvs ∧ TabIs kvs cs
  things : ThAll h' vs ts
  keep : ∀ b o, b ≠ L → b ≠ I → b ≠ d → s.heap.get? b = some o → h'.get? b = some o
  run : countRun cs (ts.drop i) = countRun cs₀ ts
  size : cs.length + (ts.drop i).length ≤ cs₀.length + ts.length

def countLoopBody : List Stmt := match ((fnBody 1)[1]? : Option Stmt) with
  | some (Stmt.For _ _ b _ _) => b
  | _ => []

theorem sub_seq {h h' : Heap} {a : Addr} (hs : Heap.SameBut a h h') (hne : ∀ b o xs n, h.get? b = some o → o.data = .seq xs n → b ≠ a) : SeqKept h h' :=
  fun b o xs n ho hd => (hs.2 b (hne b o xs n ho hd)).trans ho

set_option maxHeartbeats 1000000 in
theorem count_turn {prog : Program} {w : World} {A : Around} {E : Value → Shared → Prop} {s₀ : Shared} {Q : Flow → Shared → Prop} {L d q f : Addr} {cd : Value} {cs : Tab} {h : Heap} {tk : Nat} {v : Value} {t : Th} {m : Str → Option Value}
    (hh : A.handled = none) (hu : A.units + 1 < cLine) (hmod : (d == sysModules) = false) (hsz : cs.length ≤ 1000)
    {kvs : List (Key × Value)} (hD : h.DictOf (mixKind prog w) d kvs) (hT : TabIs kvs cs) (hB : IsBound h q d) (hn : h.Ns L m) (hm1 : m "mapping" = some (.ref d)) (hm2 : m "mapping_get" = some (.ref q)) (hm3 : m "elem" = some v) (ht : ThAt h v t)
    (ok : ∀ cs' kvs' h' tk', countOne cs t = some cs' → h'.DictOf (mixKind prog w) d kvs' → TabIs kvs' cs' → Heap.SameBut d h h' → Q .next { s₀ with heap := h', toks := tk' })
    (bad : ∀ h' tk' e, countOne cs t = none → Heap.NewExc h h' e "TypeError" → E (.ref e) { s₀ with heap := h', toks := tk' }) :
    wpAny (model prog w) A (execs countLoopBody (envOf "_count_elements" (fnScope 1) L f cd)) Q E { s₀ with heap := h, toks := tk } := by
  obtain ⟨oq, hq, hqc, hqd⟩ := hB
  refine wpAny_execs_cons ?_
  refine wpAny_Assign_Subscript ?_
  refine wpAny_BinOp ?_
  refine wpAny_Call_NameR ?_
  refine ldL hn hm2 ?_
  refine callWith_boundE (oq := oq) (vs := #[.builtin "dict.get", .ref d]) ?_
  refine args_cons ?_
  refine ldL hn hm3 ?_
  refine args_cons ?_
  refine wpAny_Constant_int ?_
  refine args_nil ?_
  refine ⟨⟨hq, hqc, hqd⟩, ?_⟩
  cases ht with
  | box hl =>
    refine get_call_list (s := { s₀ with heap := h, toks := tk + 1 }) hq hqc hqd hD hl.typeIs hh hu fun h' tk' e x => ?_
    exact bad h' tk' e rfl x
  | @key k _ hk =>
    refine get_call (s := { s₀ with heap := h, toks := tk + 1 }) (k := k) hq hqc hqd hD hmod hk ?_
    refine wpAny_Constant_int ?_
    have fin : ∀ (n : Int) (u : Tok) tk'', ((tabAt cs k).getD (.int 0)).bump = some n → wpAny (model prog w) A (setItem (.ref d) v (.int n u)) (fun _ s' => Q .next s') E { s₀ with heap := h, toks := tk'' } := fun n u tk'' hb =>
      wpAny_setItem_pairs (s := { s₀ with heap := h, toks := tk'' }) (k := k) hk hD (fun h' hD' hs => ok _ _ _ _ (by simp only [countOne, hb]; rfl) hD' (hT.stored (c := .int n) ⟨u, rfl⟩) hs)
        (by rw [hT.length, sizeLine_eq]; omega)
    rcases hT.valueAt k with ⟨e1, e2⟩ | ⟨c, v', e1, e2, e3⟩
    · rw [e2]
      refine wpAny_add_int ?_
      refine ldL hn hm1 ?_
      refine ldL hn hm3 ?_
      exact wpAny_mono (fin _ _ _ (by rw [e1]; rfl)) (fun _ _ x => wpAny_execs_nil x) fun _ _ x => x
    · rw [e2]
      have e4 : countOne cs (.key k) = c.bump.map fun n => tabPut cs k (.int n) := by simp only [countOne, e1, Option.getD_some]
      cases c with
      | int i =>
        obtain ⟨u, rfl⟩ := e3
        refine wpAny_add_int ?_
        refine ldL hn hm1 ?_
        refine ldL hn hm3 ?_
        exact wpAny_mono (fin _ _ _ (by rw [e1]; rfl)) (fun _ _ x => wpAny_execs_nil x) fun _ _ x => x
      | bool b =>
        obtain rfl : v' = .bool b := e3
        refine IntBool.add_bool_int ?_
        refine ldL hn hm1 ?_
        refine ldL hn hm3 ?_
        exact wpAny_mono (fin _ _ _ (by rw [e1]; rfl)) (fun _ _ x => wpAny_execs_nil x) fun _ _ x => x
      | str x =>
        obtain ⟨u, rfl⟩ := e3
        refine add_str_int_raises hh fun h' tk' e x => ?_
        exact bad h' tk' e e4 x

set_option maxHeartbeats 1000000 in
theorem count_loop {prog : Program} {w : World} {A : Around} {R : Result → Shared → Prop} {s : Shared} {L I d q l f : Addr} {cd : Value} {px : Pos} {vs : List Value} {ts : List Th} {cs : Tab}
    (hh : A.handled = none) (hu : A.units + 1 < cLine) (hmod : (d == sysModules) = false) (hLd : L ≠ d) (hsz : cs.length + ts.length ≤ 1000)
    (C : CountAt prog w s L I d q l vs ts cs 0 cs s.heap)
    (ok : ∀ h' tk cs', countRun cs ts = (cs', true) → (∃ kvs', h'.DictOf (mixKind prog w) d kvs' ∧ TabIs kvs' cs') → (∀ b o, b ≠ L → b ≠ I → b ≠ d → s.heap.get? b = some o → h'.get? b = some o) → (∃ m, h'.Ns L m) → R (.ok .next) { s with heap := h', toks := tk })
    (bad : ∀ h₁ h' tk e cs', countRun cs ts = (cs', false) → (∃ kvs', h₁.DictOf (mixKind prog w) d kvs' ∧ TabIs kvs' cs') → (∀ b o, b ≠ L → b ≠ I → b ≠ d → s.heap.get? b = some o → h₁.get? b = some o) → (∃ m, h₁.Ns L m) →
      Heap.NewExc h₁ h' e "TypeError" → notedBy (model prog w) A (envOf "_count_elements" (fnScope 1) L f cd) (fun e s' => R (.error e) s') (.ref e) { s with heap := h', toks := tk }) :
    codeAny (model prog w) A (.forLoop (.Name "elem" px) (.ref I) countLoopBody [] (envOf "_count_elements" (fnScope 1) L f cd)) R s := by
  refine codeAny_forLoop (fun k s' => ∃ h' tk i cs', s' = { s with heap := h', toks := tk } ∧ CountAt prog w s L I d q l vs ts cs i cs' h' ∧ i ≤ ts.length ∧ k = ts.length + 1 - i) ?_ (ts.length + 1)
    ⟨s.heap, s.toks, 0, cs, rfl, C, Nat.zero_le _, rfl⟩
  rintro k s' ⟨h, tk, i, cs₁, rfl, C₁, hi, rfl⟩
  have hlen := C₁.things.length
  obtain ⟨m, hn, hm1, hm2⟩ := C₁.ns
  obtain ⟨kvs, hD, hT⟩ := id C₁.dict
  by_cases hlt : i < ts.length
  · have hlt' : i < vs.length := by omega
    refine wpAny_pyNext_list_item (x := vs[i]) C₁.iter C₁.lst (by simp [hlt']) fun h₁ hit₁ hs₁ => ?_
    have neLI := ns_not_iter hn C₁.iter
    have nedI := dict_not_iter hD C₁.iter
    have neqI := bound_not_iter C₁.bound C₁.iter
    have k₁ : SeqKept h h₁ := sub_seq hs₁ fun b o xs n ho hd => iter_not_seq C₁.iter ho hd
    have hn₁ : h₁.Ns L m := hn.sameBut hs₁ neLI
    have hD₁ : h₁.DictOf (mixKind prog w) d kvs := hD.sameBut hs₁ nedI
    have hB₁ : IsBound h₁ q d := by obtain ⟨o, a, b⟩ := C₁.bound; exact ⟨o, (hs₁.2 q neqI).trans a, b⟩
    refine wpAny_assign_Name (stL hn₁ fun h₂ hn₂ hs₂ => ?_)
    have k₂ : SeqKept h₁ h₂ := sub_seq hs₂ fun b o xs n ho hd => ns_not_seq hn₁ ho hd
    have k₁₂ : SeqKept h h₂ := fun b o xs n ho hd => k₂ b o xs n (k₁ b o xs n ho hd) hd
    have hD₂ : h₂.DictOf (mixKind prog w) d kvs := hD₁.sameBut hs₂ (Ne.symm hLd)
    obtain ⟨t, ht, hth⟩ := C₁.things.get (i := i) (v := vs[i]) (by simp [hlt'])
    have hdrop : ts.drop i = t :: ts.drop (i + 1) := by
      rw [List.drop_eq_getElem_cons hlt]
      congr 1
      rw [List.getElem?_eq_getElem hlt] at ht
      exact Option.some.inj ht
    have hz : cs₁.length ≤ 1000 := by have := C₁.size; omega
    have neqL : q ≠ L := bound_not_ns hB₁ hn₁
    have hB₂ : IsBound h₂ q d := by obtain ⟨o, a, b⟩ := hB₁; exact ⟨o, (hs₂.2 q neqL).trans a, b⟩
    have keep₂ : ∀ b o, b ≠ L → b ≠ I → b ≠ d → s.heap.get? b = some o → h₂.get? b = some o := fun b o hb1 hb2 hb3 e =>
      (hs₂.2 b hb1).trans ((hs₁.2 b hb2).trans (C₁.keep b o hb1 hb2 hb3 e))
    have hrun := C₁.run
    rw [hdrop] at hrun
    refine count_turn (t := t) (q := q) (d := d) (v := vs[i]) hh hu hmod hz hD₂ hT hB₂ hn₂ ?_ ?_ ?_ (hth.kept k₁₂) ?_ ?_
    · show (if _ then _ else _) = _
      rw [if_neg (by decide)]; exact hm1
    · show (if _ then _ else _) = _
      rw [if_neg (by decide)]; exact hm2
    · show (if _ then _ else _) = _
      rw [if_pos rfl]
    · intro cs₂ kvs₂ h₃ tk₃ hone hD₃ hT₃ hs₃
      have k₃ : SeqKept h₂ h₃ := sub_seq hs₃ fun b o xs n ho hd => dict_not_seq hD₂ ho hd
      have k₁₃ : SeqKept h h₃ := fun b o xs n ho hd => k₃ b o xs n (k₁₂ b o xs n ho hd) hd
      refine ⟨ts.length + 1 - (i + 1), by omega, h₃, tk₃, i + 1, cs₂, rfl, ?_, hlt, rfl⟩
      refine ⟨?_, k₁₃.isList C₁.lst, ⟨_, hn₂.sameBut hs₃ hLd, ?_, ?_⟩, ?_, ⟨kvs₂, hD₃, hT₃⟩, C₁.things.kept k₁₃, fun b o hb1 hb2 hb3 e => (hs₃.2 b hb3).trans (keep₂ b o hb1 hb2 hb3 e), ?_, ?_⟩
      · obtain ⟨o, a, b⟩ := hit₁
        exact ⟨o, (hs₃.2 I (Ne.symm nedI)).trans ((hs₂.2 I (Ne.symm neLI)).trans a), b⟩
      · show (if _ then _ else _) = _
        rw [if_neg (by decide)]; exact hm1
      · show (if _ then _ else _) = _
        rw [if_neg (by decide)]; exact hm2
      · obtain ⟨o, a, b⟩ := id hB₂
        exact ⟨o, (hs₃.2 q (bound_not_dict hB₂ hD₂)).trans a, b⟩
      · rw [← hrun]; simp only [countRun, hone]
      · have h1 := C₁.size
        have h2 := countOne_length hone
        rw [hdrop] at h1
        simp only [List.length_cons] at h1
        omega
    · intro h₃ tk₃ e hone hx
      refine bad h₂ h₃ tk₃ e cs₁ ?_ ⟨kvs, hD₂, hT⟩ keep₂ ⟨_, hn₂⟩ hx
      rw [← hrun]; simp only [countRun, hone]
  · have hin : i = ts.length := by omega
    subst hin
    refine wpAny_pyNext_list_end hh C₁.iter C₁.lst (by simp [hlen]) fun h₁ hs₁ => wpAny_execs_nil ?_
    have neLI := ns_not_iter hn C₁.iter
    have nedI := dict_not_iter hD C₁.iter
    refine ok h₁ _ cs₁ ?_ ⟨kvs, hD.extBut hs₁ nedI, hT⟩ (fun b o hb1 hb2 hb3 e => hs₁ b o hb2 (C₁.keep b o hb1 hb2 hb3 e)) ⟨m, hn.extBut hs₁ neLI⟩
    rw [← C₁.run]; simp [countRun]
end Mine

namespace Mine

def cEnv (L f : Addr) (cd : Value) : Env := envOf "_count_elements" (fnScope 1) L f cd

set_option maxHeartbeats 1000000 in
theorem count_body {prog : Program} {w : World} {A : Around} {E : Value → Shared → Prop} {Q : Flow → Shared → Prop} {s : Shared} {L d l f : Addr} {cd : Value} {m : Str → Option Value} {vs : List Value} {ts : List Th} {cs : Tab} {kvs : List (Key × Value)}
    (hE : PassesOwn (model prog w) A (envOf "_count_elements" (fnScope 1) L f cd) E)
    (hh : A.handled = none) (hu : A.units + 1 < cLine) (hmod : (d == sysModules) = false) (hLd : L ≠ d) (hsz : cs.length + ts.length ≤ 1000)
    (hn : s.heap.Ns L m) (hm1 : m "mapping" = some (.ref d)) (hm2 : m "iterable" = some (.ref l)) (hD : s.heap.DictOf (mixKind prog w) d kvs) (hT : TabIs kvs cs)
    (hl : s.heap.IsList l vs.toArray) (hth : ThAll s.heap vs ts)
    (ok : ∀ h' tk cs', countRun cs ts = (cs', true) → (∃ kvs', h'.DictOf (mixKind prog w) d kvs' ∧ TabIs kvs' cs') → (∀ b o, b ≠ L → b ≠ d → s.heap.get? b = some o → h'.get? b = some o) → (∃ m, h'.Ns L m) → Q .next { s with heap := h', toks := tk })
    (bad : ∀ h₁ h' tk e cs', countRun cs ts = (cs', false) → (∃ kvs', h₁.DictOf (mixKind prog w) d kvs' ∧ TabIs kvs' cs') → (∀ b o, b ≠ L → b ≠ d → s.heap.get? b = some o → h₁.get? b = some o) → (∃ m, h₁.Ns L m) →
      Heap.NewExc h₁ h' e "TypeError" → E (.ref e) { s with heap := h', toks := tk }) :
    wpAny (model prog w) A (execs (fnBody 1) (envOf "_count_elements" (fnScope 1) L f cd)) Q E s := by
  obtain ⟨od, es, ep, ho, hx, hd, _⟩ := id hD
  refine wpAny_execs_cons ?_
  refine wpAny_Assign_Name ?_
  refine Attribute_Name_ ?_
  refine ldL hn hm1 ?_
  refine getAttr_dict_get ho hx.1 hd hx.2.1 ?_
  have hn₁ := hn.push (boundGet d)
  have hD₁ := hD.push (boundGet d)
  refine stL hn₁ fun h₂ hn₂ hs₂ => ?_
  have hq₁ : IsBound (s.heap.push (boundGet d)) s.heap.objs.size d := ⟨_, Heap.get?_push_size _ rfl, rfl, rfl⟩
  have hqL : s.heap.objs.size ≠ L := bound_not_ns hq₁ hn₁
  have hq₂ : IsBound h₂ s.heap.objs.size d := by obtain ⟨o, a, b⟩ := hq₁; exact ⟨o, (hs₂.2 _ hqL).trans a, b⟩
  have k₁ : SeqKept s.heap (s.heap.push (boundGet d)) := fun b o xs n ho _ => Heap.get?_push_of_some _ ho
  have k₂ : SeqKept (s.heap.push (boundGet d)) h₂ := sub_seq hs₂ fun b o xs n ho hd => ns_not_seq hn₁ ho hd
  have k₁₂ : SeqKept s.heap h₂ := fun b o xs n ho hd => k₂ b o xs n (k₁ b o xs n ho hd) hd
  have hD₂ : h₂.DictOf (mixKind prog w) d kvs := hD₁.sameBut hs₂ (Ne.symm hLd)
  have keep₂ : ∀ b o, b ≠ L → s.heap.get? b = some o → h₂.get? b = some o := fun b o hb e => (hs₂.2 b hb).trans (Heap.get?_push_of_some _ e)
  show wpAny _ _ (execs _ _) _ _ _
  refine wpAny_execs_cons ?_
  refine wpAny_For ?_
  refine ldL hn₂ (v := .ref l) ?_ ?_
  · show (if _ then _ else _) = _
    rw [if_neg (by decide)]; exact hm2
  refine wpAny_pyIter_list (k₁₂.isList hl) ?_
  have hl₂ := k₁₂.isList hl
  dsimp only
  generalize hH : h₂.push { cls := Value.type "list_iterator", data := Data.fields #[Value.ref l, Value.int 0 0] } = h₃
  have up₃ : ∀ b o, h₂.get? b = some o → h₃.get? b = some o := fun b o e => hH ▸ Heap.get?_push_of_some _ e
  have k₃ : SeqKept h₂ h₃ := fun b o xs n ho _ => up₃ b o ho
  have k₁₃ : SeqKept s.heap h₃ := fun b o xs n ho hd => k₃ b o xs n (k₁₂ b o xs n ho hd) hd
  have hit₃ : h₃.IsListIter h₂.objs.size l 0 := ⟨_, hH ▸ Heap.get?_push_size _ rfl, rfl, rfl⟩
  refine count_loop (s := { s with heap := h₃, toks := s.toks + 1 + 1 }) (d := d) (q := s.heap.objs.size) (l := l) (vs := vs) (ts := ts) (cs := cs) hh hu hmod hLd hsz ?_ ?_ ?_
  · refine ⟨hit₃, k₁₃.isList hl, ⟨_, hn₂.keeps up₃, ?_, ?_⟩, ?_, ⟨kvs, ?_, hT⟩, hth.kept k₁₃, fun b o _ _ _ e => e, rfl, Nat.le_refl _⟩
    · show (if _ then _ else _) = _
      rw [if_neg (by decide)]; exact hm1
    · show (if _ then _ else _) = _
      rw [if_pos rfl]
    · obtain ⟨o, a, b⟩ := hq₂; exact ⟨o, up₃ _ _ a, b⟩
    · exact hH ▸ hD₂.push _
  · intro h' tk cs' hr hdict hk hns
    refine wpAny_execs_nil (ok h' tk cs' hr hdict (fun b o hb1 hb2 e => hk b o hb1 ?_ hb2 (up₃ b o (keep₂ b o hb1 e))) hns)
    rintro rfl
    exact absurd (Heap.lt_size (keep₂ _ o hb1 e)) (Nat.lt_irrefl _)
  · intro h₁ h' tk e cs' hr hdict hk hns hx
    refine hE _ _ (bad h₁ h' tk e cs' hr hdict (fun b o hb1 hb2 e => hk b o hb1 ?_ hb2 (up₃ b o (keep₂ b o hb1 e))) hns hx)
    rintro rfl
    exact absurd (Heap.lt_size (keep₂ _ o hb1 e)) (Nat.lt_irrefl _)
end Mine

namespace Mine

theorem list_noget : typeLookup (.type "list") "get" = pure none := am_miss_of_fast (by decide +kernel)

set_option maxHeartbeats 1000000 in
theorem count_body_int {prog : Program} {w : World} {A : Around} {E : Value → Shared → Prop} {Q : Flow → Shared → Prop} {s : Shared} {L d f : Addr} {cd : Value} {m : Str → Option Value} {n : Int} {t : Tok} {kvs : List (Key × Value)}
    (hh : A.handled = none)
    (hn : s.heap.Ns L m) (hm1 : m "mapping" = some (.ref d)) (hm2 : m "iterable" = some (.int n t)) (hD : s.heap.DictOf (mixKind prog w) d kvs)
    (bad : ∀ h₁ h' tk e, (∀ b o, b ≠ L → s.heap.get? b = some o → h₁.get? b = some o) → (∃ m, h₁.Ns L m) →
      Heap.NewExc h₁ h' e "TypeError" → E (.ref e) { s with heap := h', toks := tk }) :
    wpAny (model prog w) A (execs (fnBody 1) (envOf "_count_elements" (fnScope 1) L f cd)) Q E s := by
  obtain ⟨od, es, ep, ho, hx, hd, _⟩ := id hD
  refine wpAny_execs_cons ?_
  refine wpAny_Assign_Name ?_
  refine Attribute_Name_ ?_
  refine ldL hn hm1 ?_
  refine getAttr_dict_get ho hx.1 hd hx.2.1 ?_
  have hn₁ := hn.push (boundGet d)
  refine stL hn₁ fun h₂ hn₂ hs₂ => ?_
  have keep₂ : ∀ b o, b ≠ L → s.heap.get? b = some o → h₂.get? b = some o := fun b o hb e => (hs₂.2 b hb).trans (Heap.get?_push_of_some _ e)
  show wpAny _ _ (execs _ _) _ _ _
  refine wpAny_execs_cons ?_
  refine wpAny_For ?_
  refine ldL hn₂ (v := .int n t) ?_ ?_
  · show (if _ then _ else _) = _
    rw [if_neg (by decide)]; exact hm2
  refine pyIter_int_raises hh fun h' tk e x => ?_
  exact bad h₂ h' tk e keep₂ ⟨_, hn₂⟩ x

theorem count_body_list {prog : Program} {w : World} {A : Around} {E : Value → Shared → Prop} {Q : Flow → Shared → Prop} {s : Shared} {L a f : Addr} {cd : Value} {m : Str → Option Value} {o : Obj} {xs : Array Value} {k : Nat}
    (hh : A.handled = none)
    (hn : s.heap.Ns L m) (hm1 : m "mapping" = some (.ref a)) (ho : s.heap.get? a = some o) (hc : o.cls = .type "list") (hd : o.data = .seq xs k) (hdd : o.dict = none)
    (bad : ∀ h' tk e, Heap.NewExcOf s.heap h' e "AttributeError" → E (.ref e) { s with heap := h', toks := tk }) :
    wpAny (model prog w) A (execs (fnBody 1) (envOf "_count_elements" (fnScope 1) L f cd)) Q E s := by
  refine wpAny_execs_cons ?_
  refine wpAny_Assign_Name ?_
  refine Attribute_Name_ ?_
  refine ldL hn hm1 ?_
  exact getAttr_miss_list ho hc hd hdd list_noget (by decide +kernel) hh bad (by decide +kernel)

abbrev frs (l : List Env) : List Addr := l.filterMap (·.frame)

theorem leave_first {M : Model} {A : Around} {E : Value → Shared → Prop} {s : Shared} {env : Env} {outer : List Env} {L e : Addr} {h₁ : Heap} {cls : String} {Q : Unit → Shared → Prop}
    (hfr : A.frames = some (env :: outer)) (hf : env.frame = some L) (hF : h₁.FunFrames {} (env :: outer)) (hx : Heap.NewExcOf h₁ s.heap e cls)
    (hQ : ∀ h' B a0, Heap.FlyingW B outer e (.type cls) a0 h' → (∀ b o, h₁.get? b = some o → b ∉ frs (env :: outer) → B.get? b = some o) → h₁.UpToSlots h' → Q () { s with heap := h' }) :
    wpAny M A (leaving env (.ref e)) Q E s := by
  obtain ⟨ob, vs, he, hcls, hd, h1⟩ := hx.there
  have hsz : 1 < vs.size := (Array.getElem?_eq_some_iff.mp h1).1
  have h0 : vs[0]? = some (vs[0]'(Nat.lt_trans Nat.zero_lt_one hsz)) := Array.getElem?_eq_getElem _
  have hin : ∀ env' ∈ (env :: outer), ∀ b, env'.frame = some b → b ∈ frs (env :: outer) := fun env' he b hb => List.mem_filterMap.mpr ⟨env', he, hb⟩
  have hen : (hideAll h₁ (frs (env :: outer))).get? e = none := by
    cases q : (hideAll h₁ (frs (env :: outer))).get? e with
    | none => rfl
    | some o => have := of_hideAll _ q; rw [hx.new] at this; cases this
  refine wpAny_leaving_firstW (base := hideAll h₁ (frs (env :: outer))) hfr ((funFrames_hide hF hin).of_keeps fun b o hb _ => ⟨o, hx.keeps b o hb, rfl⟩) hf he (fun b o hb => hx.keeps b o (of_hideAll _ hb)) hen hd h1 h0 fun h' hL => ?_
  obtain ⟨k1, ⟨_, _, k2⟩, k3, k4⟩ := hL
  exact hQ h' _ _ ⟨k1, hen, k2, by rw [← hcls]; exact k3⟩ (fun b o hb hn => hideAll_get _ hb hn) ((Heap.UpToSlots.of_keeps hx.keeps).trans k4)
end Mine

namespace Mine

def fnParams (i : Nat) : Arguments := match PySem.Challenge.pw_dp0007_01.main.body[i]? with
  | some (.FunctionDef _ a _ _ _ _ _ _ _ _) => a
  | _ => { posonlyargs := [], args := [], vararg := none, kwonlyargs := [], kw_defaults := [], kwarg := none, defaults := [] }

/-- the text's def number i lies at f -/
structure FnAt (h : Heap) (f : Addr) (name : Str) (i : Nat) (cd : Value) : Prop where
  there : ∃ o doc pm ct an, h.get? f = some o ∧ o.data = .func (fnOf name name (fnParams i) (fnBody i) (fnScope i) .none .none doc pm an cd ct)
  code : h.CodeRec cd name
theorem FnAt.keeps {h h' : Heap} {f : Addr} {name : Str} {i : Nat} {cd : Value} (x : FnAt h f name i cd) (k : ∀ b o, h.get? b = some o → h'.get? b = some o) : FnAt h' f name i cd :=
  ⟨by obtain ⟨o, a, b, c, d, e, g⟩ := x.there; exact ⟨o, a, b, c, d, k _ _ e, g⟩, x.code.keeps k⟩

section
variable {prog : Program} {w : World} {A : Around} {E : Value → Shared → Prop} {s : Shared} {fr : List Env} {fc d l : Addr} {cd : Value} {Q : Value → Shared → Prop}

theorem funFrames_old {h h' : Heap} {fr : List Env} (hF : h.FunFrames {} fr) (k : ∀ b o, b ∈ frs fr → h.get? b = some o → h'.get? b = some o) : h'.FunFrames {} fr := by
  induction fr with
  | nil => trivial
  | cons env rest ih =>
    obtain ⟨hk, ⟨L, o, hf, hn, ho, hd⟩, hr⟩ := hF
    have hin : L ∈ frs (env :: rest) := List.mem_filterMap.mpr ⟨env, .head _, hf⟩
    refine ⟨hk, ⟨L, o, hf, hn, k L o hin ho, hd⟩, ih hr fun b o' hb e => k b o' ?_ e⟩
    obtain ⟨env', he, hf'⟩ := List.mem_filterMap.mp hb
    exact List.mem_filterMap.mpr ⟨env', .tail _ he, hf'⟩

theorem frs_not_fields {h : Heap} {fr : List Env} (hF : h.FunFrames {} fr) {b : Addr} {o : Obj} (hb : b ∈ frs fr) (ho : h.get? b = some o) : ∀ vs, o.data ≠ .fields vs := by
  obtain ⟨_, o', ho', hd⟩ := hF.mem hb
  rw [ho] at ho'; cases ho'; exact hd
theorem frs_lt {h : Heap} {fr : List Env} (hF : h.FunFrames {} fr) {b : Addr} (hb : b ∈ frs fr) : b < h.objs.size := by
  obtain ⟨_, o', ho', _⟩ := hF.mem hb
  exact Heap.lt_size ho'

set_option maxHeartbeats 1000000 in
theorem count_enter {x y : Value} {R : Result → Shared → Prop} (F : FnAt s.heap fc "_count_elements" 1 cd) (hlim : s.heap.NoLimit) (hroom : A.depth < recursionLimit)
    (h : ∀ h₀, h₀.Ns s.heap.objs.size (fun z => ([("mapping", x), ("iterable", y)] : List (Str × Value)).reverse.lookup z) → (∀ b o, s.heap.get? b = some o → h₀.get? b = some o) →
      wpAny (model prog w) (A.deeper (envOf "_count_elements" (fnScope 1) s.heap.objs.size fc cd)) (execs (fnBody 1) (envOf "_count_elements" (fnScope 1) s.heap.objs.size fc cd)) (fun f s' => R (.ok (.ret (match f with | .ret v => v | _ => .none))) s')
        (fun e s' => wpAny (model prog w) (A.deeper (envOf "_count_elements" (fnScope 1) s.heap.objs.size fc cd)) (leaving (envOf "_count_elements" (fnScope 1) s.heap.objs.size fc cd) e) (fun _ s'' => R (.error e) s'') (fun e' s'' => R (.error e') s'') s')
        { s with heap := h₀, toks := s.toks + 2 }) :
    codeAny (model prog w) A (.call (.ref fc) ⟨[x, y], []⟩) R s := by
  obtain ⟨o, doc, pm, ct, an, ho, hd⟩ := F.there
  refine codeAny_call_def (binds := [("mapping", x), ("iterable", y)]) hroom ho hd hlim F.code rfl (BindsTo.of_eq (by with_unfolding_all rfl)) ?_ ?_ h rfl rfl rfl
  · show ∀ x ∈ (fnScope 1).names, x.2 ≠ .cell
    decide
  · exact locs (by with_unfolding_all rfl)

theorem dictOf_keeps {h h' : Heap} {d : Addr} {kvs : List (Key × Value)} (x : h.DictOf (mixKind prog w) d kvs) (k : ∀ b o, h.get? b = some o → h'.get? b = some o) : h'.DictOf (mixKind prog w) d kvs := by
  obtain ⟨o, es, ep, ho, r⟩ := x; exact ⟨o, es, ep, k _ _ ho, r⟩

set_option maxHeartbeats 1000000 in
theorem count_call {vs : List Value} {ts : List Th} {cs : Tab} {kvs : List (Key × Value)} (F : FnAt s.heap fc "_count_elements" 1 cd) (hlim : s.heap.NoLimit) (hroom : A.depth < recursionLimit)
    (hfr : A.frames = some fr) (hF : s.heap.FunFrames {} fr) (hdf : d ∉ frs fr) (hh : A.handled = none) (hu : A.units + 4 < cLine) (hmod : (d == sysModules) = false) (hsz : cs.length + ts.length ≤ 1000)
    (hD : s.heap.DictOf (mixKind prog w) d kvs) (hT : TabIs kvs cs) (hl : s.heap.IsList l vs.toArray) (hth : ThAll s.heap vs ts)
    (ok : ∀ h' tk cs', countRun cs ts = (cs', true) → (∃ kvs', h'.DictOf (mixKind prog w) d kvs' ∧ TabIs kvs' cs') → (∀ b o, b ≠ d → s.heap.get? b = some o → h'.get? b = some o) → Q .none { s with heap := h', toks := tk })
    (bad : ∀ h' B a0 tk e cs', countRun cs ts = (cs', false) → Heap.FlyingW B fr e (.type "TypeError") a0 h' → (∃ kvs', B.DictOf (mixKind prog w) d kvs' ∧ TabIs kvs' cs') → (∀ b o, b ∉ frs fr → b ≠ d → s.heap.get? b = some o → B.get? b = some o) →
      (∀ b o, b ∈ frs fr → s.heap.get? b = some o → ∃ sl, h'.get? b = some { o with slots := sl }) → E (.ref e) { s with heap := h', toks := tk }) :
    wpAny (model prog w) A (call (.ref fc) [.ref d, .ref l]) Q E s := by
  have hdlt : d < s.heap.objs.size := by obtain ⟨o, _, _, ho, _⟩ := hD; exact Heap.lt_size ho
  refine wpAny_call (count_enter F hlim hroom fun h₀ hn hk => ?_)
  have hk0 : ∀ b o, s.heap.get? b = some o → b ≠ s.heap.objs.size := fun b o e => Nat.ne_of_lt (Heap.lt_size e)
  refine count_body (L := s.heap.objs.size) (d := d) (l := l) (vs := vs) (ts := ts) (cs := cs) (kvs := kvs) PassesOwn.leaving hh (by show A.units + 3 + 1 < cLine; omega) hmod (Nat.ne_of_gt hdlt) hsz hn (by rfl) (by rfl) ?_ hT ?_ ?_ ?_ ?_
  · exact dictOf_keeps hD hk
  · obtain ⟨o, ho, r⟩ := hl; exact ⟨o, hk _ _ ho, r⟩
  · exact hth.kept fun b o _ _ ho _ => hk b o ho
  · intro h' tk cs' hr hdict hkeep _
    exact ok h' tk cs' hr hdict fun b o hb e => hkeep b o (hk0 b o e) hb (hk b o e)
  · intro h₁ h' tk e cs' hr hdict hkeep hns hx
    have hfr₁ : (A.deeper (envOf "_count_elements" (fnScope 1) s.heap.objs.size fc cd)).frames = some (envOf "_count_elements" (fnScope 1) s.heap.objs.size fc cd :: fr) := Around.frames_deeper hfr
    have hkf : ∀ b o, b ∈ frs fr → s.heap.get? b = some o → h₁.get? b = some o := fun b o hb e => hkeep b o (hk0 b o e) (fun q => hdf (q ▸ hb)) (hk b o e)
    have hF₁ : h₁.FunFrames {} (envOf "_count_elements" (fnScope 1) s.heap.objs.size fc cd :: fr) := by
      obtain ⟨m, hm⟩ := hns
      exact Heap.FunFrames.cons (show (fnScope 1).kind ≠ .module by decide) rfl hm rfl (funFrames_old hF hkf)
    refine leave_first (h₁ := h₁) hfr₁ rfl hF₁ hx.of fun h'' B a0 hfl hB hup => ?_
    have hfrs : frs (envOf "_count_elements" (fnScope 1) s.heap.objs.size fc cd :: fr) = s.heap.objs.size :: frs fr := rfl
    rw [hfrs] at hB
    refine bad h'' B a0 _ e cs' hr hfl ?_ ?_ ?_
    · obtain ⟨kvs', hD', hT'⟩ := hdict
      refine ⟨kvs', ?_, hT'⟩
      obtain ⟨o, es, ep, ho, r⟩ := hD'
      exact ⟨o, es, ep, hB d o ho fun q => (List.mem_cons.mp q).elim (fun q => Nat.ne_of_lt hdlt q) hdf, r⟩
    · intro b o hb1 hb2 e
      exact hB b o (hkeep b o (hk0 b o e) hb2 (hk b o e)) fun q => (List.mem_cons.mp q).elim (hk0 b o e) hb1
    · intro b o hb e
      exact hup b o (hkf b o hb e) (frs_not_fields hF hb e)

theorem raise_out {h₀ h₁ : Heap} {x : Shared} {tk : Nat} {e : Addr} {cls : String} {R : Result → Shared → Prop}
    (hfr : A.frames = some fr) (hF : s.heap.FunFrames {} fr) (hk : ∀ b o, s.heap.get? b = some o → h₁.get? b = some o) (hns : ∃ m, h₁.Ns s.heap.objs.size m) (hx : Heap.NewExcOf h₁ h₀ e cls)
    (bad : ∀ h' B a0, Heap.FlyingW B fr e (.type cls) a0 h' → (∀ b o, b ∉ frs fr → s.heap.get? b = some o → B.get? b = some o) →
      (∀ b o, b ∈ frs fr → s.heap.get? b = some o → ∃ sl, h'.get? b = some { o with slots := sl }) → R (.error (.ref e)) { s with heap := h', toks := tk }) :
    wpAny (model prog w) (A.deeper (envOf "_count_elements" (fnScope 1) s.heap.objs.size fc cd)) (leaving (envOf "_count_elements" (fnScope 1) s.heap.objs.size fc cd) (.ref e)) (fun _ s'' => R (.error (.ref e)) s'') (fun e' s'' => R (.error e') s'') { s with heap := h₀, toks := tk } := by
  have hk0 : ∀ b o, s.heap.get? b = some o → b ≠ s.heap.objs.size := fun b o e => Nat.ne_of_lt (Heap.lt_size e)
  have hfr₁ : (A.deeper (envOf "_count_elements" (fnScope 1) s.heap.objs.size fc cd)).frames = some (envOf "_count_elements" (fnScope 1) s.heap.objs.size fc cd :: fr) := Around.frames_deeper hfr
  have hF₁ : h₁.FunFrames {} (envOf "_count_elements" (fnScope 1) s.heap.objs.size fc cd :: fr) := by
    obtain ⟨m, hm⟩ := hns
    exact Heap.FunFrames.cons (show (fnScope 1).kind ≠ .module by decide) rfl hm rfl (funFrames_old hF fun b o _ e => hk b o e)
  refine leave_first (h₁ := h₁) hfr₁ rfl hF₁ hx fun h'' B a0 hfl hB hup => ?_
  have hfrs : frs (envOf "_count_elements" (fnScope 1) s.heap.objs.size fc cd :: fr) = s.heap.objs.size :: frs fr := rfl
  rw [hfrs] at hB
  exact bad h'' B a0 hfl (fun b o hb1 e => hB b o (hk b o e) fun q => (List.mem_cons.mp q).elim (hk0 b o e) hb1) fun b o hb e => hup b o (hk b o e) (frs_not_fields hF hb e)

theorem count_call_int {n : Int} {t : Tok} {kvs : List (Key × Value)} (F : FnAt s.heap fc "_count_elements" 1 cd) (hlim : s.heap.NoLimit) (hroom : A.depth < recursionLimit)
    (hfr : A.frames = some fr) (hF : s.heap.FunFrames {} fr) (hh : A.handled = none) (hD : s.heap.DictOf (mixKind prog w) d kvs)
    (bad : ∀ h' B a0 tk e, Heap.FlyingW B fr e (.type "TypeError") a0 h' → (∀ b o, b ∉ frs fr → s.heap.get? b = some o → B.get? b = some o) →
      (∀ b o, b ∈ frs fr → s.heap.get? b = some o → ∃ sl, h'.get? b = some { o with slots := sl }) → E (.ref e) { s with heap := h', toks := tk }) :
    wpAny (model prog w) A (call (.ref fc) [.ref d, .int n t]) Q E s := by
  refine wpAny_call (count_enter F hlim hroom fun h₀ hn hk => ?_)
  have hk0 : ∀ b o, s.heap.get? b = some o → b ≠ s.heap.objs.size := fun b o e => Nat.ne_of_lt (Heap.lt_size e)
  refine count_body_int (L := s.heap.objs.size) (d := d) (n := n) (t := t) (kvs := kvs) hh hn (by rfl) (by rfl) (dictOf_keeps hD hk) ?_
  intro h₁ h' tk e hkeep hns hx
  exact raise_out (R := fun r s' => match r with | .ok (.ret v) => Q v s' | .ok _ => False | .error e => E e s') (x := s) hfr hF (fun b o e => hkeep b o (hk0 b o e) (hk b o e)) hns hx.of fun h'' B a0 x1 x2 x3 => bad h'' B a0 tk e x1 x2 x3

theorem count_call_list {a : Addr} {y : Value} {o : Obj} {xs : Array Value} {k : Nat} (F : FnAt s.heap fc "_count_elements" 1 cd) (hlim : s.heap.NoLimit) (hroom : A.depth < recursionLimit)
    (hfr : A.frames = some fr) (hF : s.heap.FunFrames {} fr) (hh : A.handled = none) (ho : s.heap.get? a = some o) (hc : o.cls = .type "list") (hd : o.data = .seq xs k) (hdd : o.dict = none)
    (bad : ∀ h' B a0 tk e, Heap.FlyingW B fr e (.type "AttributeError") a0 h' → (∀ b o, b ∉ frs fr → s.heap.get? b = some o → B.get? b = some o) →
      (∀ b o, b ∈ frs fr → s.heap.get? b = some o → ∃ sl, h'.get? b = some { o with slots := sl }) → E (.ref e) { s with heap := h', toks := tk }) :
    wpAny (model prog w) A (call (.ref fc) [.ref a, y]) Q E s := by
  refine wpAny_call (count_enter F hlim hroom fun h₀ hn hk => ?_)
  refine count_body_list (L := s.heap.objs.size) (a := a) hh hn (by rfl) (hk _ _ ho) hc hd hdd ?_
  intro h' tk e hx
  exact raise_out (R := fun r s' => match r with | .ok (.ret v) => Q v s' | .ok _ => False | .error e => E e s') (x := s) hfr hF hk ⟨_, hn⟩ hx fun h'' B a0 x1 x2 x3 => bad h'' B a0 tk e x1 x2 x3
end
end Mine

namespace Mine

/-- where the text's defs lie -/
structure Fns where
  c : Addr
  cc : Value
  t : Addr
  tc : Value
  n : Addr
  nc : Value

def bltNames : List (Str × Value) := [("TypeError", .type "TypeError"), ("AttributeError", .type "AttributeError"), ("enumerate", .type "enumerate"), ("list", .type "list"), ("bool", .type "bool"),
  ("len", .builtin "len"), ("sum", .builtin "sum"), ("isinstance", .builtin "isinstance")]

structure Wd (h : Heap) (X : Fns) : Prop where
  glob : ∃ mg, h.Ns mainGlobals mg ∧ mg "_count_elements" = some (.ref X.c) ∧ mg "_law_told" = some (.ref X.t) ∧ mg "_law_counted" = some (.ref X.n) ∧ ∀ p ∈ bltNames, mg p.1 = none
  blt : ∃ mb, h.Ns builtinsNs mb ∧ ∀ p ∈ bltNames, mb p.1 = some p.2
  fc : FnAt h X.c "_count_elements" 1 X.cc
  ft : FnAt h X.t "_law_told" 3 X.tc
  fn : FnAt h X.n "_law_counted" 4 X.nc
  lim : h.NoLimit
theorem Wd.keeps {h h' : Heap} {X : Fns} (W : Wd h X) (k : ∀ b o, h.get? b = some o → h'.get? b = some o) : Wd h' X where
  glob := let ⟨mg, a, r⟩ := W.glob; ⟨mg, a.keeps k, r⟩
  blt := let ⟨mb, a, r⟩ := W.blt; ⟨mb, a.keeps k, r⟩
  fc := W.fc.keeps k
  ft := W.ft.keeps k
  fn := W.fn.keeps k
  lim := W.lim.keeps k

section
variable {M : Model} {A : Around} {E : Value → Shared → Prop} {s : Shared} {name : Str} {scope : Scope} {L a : Addr} {cd : Value} {X : Fns}
theorem ldB {x : Str} {pos : Pos} {v : Value} {Q : Value → Shared → Prop} (W : Wd s.heap X) (hv : (x, v) ∈ bltNames) (h : Q v s)
    (hk : scope.kind = .function := by rfl) (hx : (envOf name scope L a cd).kindOf x = some .globalImplicit := by rfl) (hd : (x == ("__debug__" : Str)) = false := by decide) :
    wpAny M A (eval (.Name x pos) (envOf name scope L a cd)) Q E s := by
  obtain ⟨mg, hg, _, _, _, hm⟩ := W.glob
  obtain ⟨mb, hb, hbv⟩ := W.blt
  exact Calls.Name_function_global hk hx (Calls.loadGlobal_builtin (env := envOf name scope L a cd) hg (hm _ hv) hb (hbv _ hv) h) hd
theorem ldC {pos : Pos} {Q : Value → Shared → Prop} (W : Wd s.heap X) (h : Q (.ref X.c) s)
    (hk : scope.kind = .function := by rfl) (hx : (envOf name scope L a cd).kindOf "_count_elements" = some .globalImplicit := by rfl) :
    wpAny M A (eval (.Name "_count_elements" pos) (envOf name scope L a cd)) Q E s := by
  obtain ⟨mg, hg, h1, h2, h3, hm⟩ := W.glob
  exact Calls.Name_function_global hk hx (Calls.loadGlobal_global (env := envOf name scope L a cd) hg h1 h) (by decide)
theorem ldT {pos : Pos} {Q : Value → Shared → Prop} (W : Wd s.heap X) (h : Q (.ref X.t) s)
    (hk : scope.kind = .function := by rfl) (hx : (envOf name scope L a cd).kindOf "_law_told" = some .globalImplicit := by rfl) :
    wpAny M A (eval (.Name "_law_told" pos) (envOf name scope L a cd)) Q E s := by
  obtain ⟨mg, hg, h1, h2, h3, hm⟩ := W.glob
  exact Calls.Name_function_global hk hx (Calls.loadGlobal_global (env := envOf name scope L a cd) hg h2 h) (by decide)
theorem ldN {pos : Pos} {Q : Value → Shared → Prop} (W : Wd s.heap X) (h : Q (.ref X.n) s)
    (hk : scope.kind = .function := by rfl) (hx : (envOf name scope L a cd).kindOf "_law_counted" = some .globalImplicit := by rfl) :
    wpAny M A (eval (.Name "_law_counted" pos) (envOf name scope L a cd)) Q E s := by
  obtain ⟨mg, hg, h1, h2, h3, hm⟩ := W.glob
  exact Calls.Name_function_global hk hx (Calls.loadGlobal_global (env := envOf name scope L a cd) hg h3 h) (by decide)
end

def toldHandlers : List ExceptHandler := match ((fnBody 3)[0]? : Option Stmt) with
  | some (.Try _ hs _ _ _) => hs
  | _ => []

section
variable {prog : Program} {w : World} {A : Around} {E : Value → Shared → Prop} {s : Shared} {fr : List Env} {L f : Addr} {cd : Value} {X : Fns} {B : Heap} {a0 : Value} {e : Addr} {Q : Flow → Shared → Prop}

abbrev tEnv (L f : Addr) (cd : Value) : Env := envOf "_law_told" (fnScope 3) L f cd

theorem sub_AE_TE : isSubtype (.type "AttributeError") (.type "TypeError") = pure false := by rw [isSubtype_type]; kernel_rfl
theorem sub_TE_TE : isSubtype (.type "TypeError") (.type "TypeError") = pure true := by rw [isSubtype_type]; kernel_rfl
theorem ae_exc : isSubtype (.type "AttributeError") (.type "BaseException") = pure true := by rw [isSubtype_type]; kernel_rfl
theorem ae_nt : isSubtype (.type ((Manifest.find? "AttributeError").elim "type" fun y => y.metatype)) (.type "tuple") = pure false := by
  rw [show ((Manifest.find? "AttributeError").elim "type" fun y => y.metatype) = "type" by decide +kernel, isSubtype_type]; kernel_rfl

set_option maxHeartbeats 1000000 in
theorem told_catch_type (W : Wd B X) (hfr : A.frames = some (tEnv L f cd :: fr)) (hfl : Heap.FlyingW B (tEnv L f cd :: fr) e (.type "TypeError") a0 s.heap)
    (k : ∀ h' tk, B.StaysIn h' → s.heap.UpToSlots h' → Q (.ret (.str "refused" tk)) { s with heap := h', toks := tk + 1 }) :
    wpAny (model prog w) A (noteFrame (.ref e) (tEnv L f cd))
      (fun _ s₂ => wpAny (model prog w) A (setFlight (.ref e) none) (fun _ s₃ => wpAny (model prog w) A (handleBy (.ref e) (tEnv L f cd) toldHandlers) Q E s₃) E s₂) E s := by
  refine wpAny_looks_onW hfr rfl hfl fun h₄ hheld₄ hsm₄ => ?_
  refine wpAny_landsW hheld₄ fun h₅ hheld hsm₅' => ?_
  obtain ⟨ob, hob, hobc⟩ := hheld.there
  refine wpAny_handleBy_builtin (X := "TypeError") (T := "TypeError") (b := true) PySem.F.isExc_TypeError PySem.F.notTuple_TypeError sub_TE_TE ?_
  refine ldB (X := X) (W.keeps hheld.1) (by decide) ⟨rfl, ⟨ob, hob, hobc⟩, ?_⟩
  rw [if_pos rfl]
  refine lands_againW hheld fun h₆ hfl₆ hsm₆ => ?_
  refine wpAny_execs_cons ?_
  refine wpAny_Return_some ?_
  refine wpAny_Constant_str ?_
  exact k h₆ _ hfl₆.1 ((hsm₄.trans hsm₅').trans hsm₆)

set_option maxHeartbeats 1000000 in
theorem told_catch_attr (W : Wd B X) (hfr : A.frames = some (tEnv L f cd :: fr)) (hfl : Heap.FlyingW B (tEnv L f cd :: fr) e (.type "AttributeError") a0 s.heap)
    (k : ∀ h' tk, B.StaysIn h' → s.heap.UpToSlots h' → Q (.ret (.str "no get" tk)) { s with heap := h', toks := tk + 1 }) :
    wpAny (model prog w) A (noteFrame (.ref e) (tEnv L f cd))
      (fun _ s₂ => wpAny (model prog w) A (setFlight (.ref e) none) (fun _ s₃ => wpAny (model prog w) A (handleBy (.ref e) (tEnv L f cd) toldHandlers) Q E s₃) E s₂) E s := by
  refine wpAny_looks_onW hfr rfl hfl fun h₄ hheld₄ hsm₄ => ?_
  refine wpAny_landsW hheld₄ fun h₅ hheld hsm₅' => ?_
  obtain ⟨ob, hob, hobc⟩ := hheld.there
  refine wpAny_handleBy_builtin (X := "AttributeError") (T := "TypeError") (b := false) PySem.F.isExc_TypeError PySem.F.notTuple_TypeError sub_AE_TE ?_
  refine ldB (X := X) (W.keeps hheld.1) (by decide) ⟨rfl, ⟨ob, hob, hobc⟩, ?_⟩
  rw [if_neg (by decide)]
  refine wpAny_handleBy_builtin (X := "AttributeError") (T := "AttributeError") (b := true) ae_exc ae_nt sub_AttributeError ?_
  refine ldB (X := X) (W.keeps hheld.1) (by decide) ⟨rfl, ⟨ob, hob, hobc⟩, ?_⟩
  rw [if_pos rfl]
  refine lands_againW hheld fun h₆ hfl₆ hsm₆ => ?_
  refine wpAny_execs_cons ?_
  refine wpAny_Return_some ?_
  refine wpAny_Constant_str ?_
  exact k h₆ _ hfl₆.1 ((hsm₄.trans hsm₅').trans hsm₆)

/-- the body of _law_told, up to its call -/
theorem told_body {m : Str → Option Value} {x y : Value} (W : Wd s.heap X) (hn : s.heap.Ns L m) (hx : m "tally" = some x) (hy : m "row" = some y)
    (h : wpAny (model prog w) A (call (.ref X.c) [x, y]) (fun v s' => Q (.ret v) s')
      (fun e s₁ => wpAny (model prog w) A (noteFrame e (tEnv L f cd)) (fun _ s₂ => wpAny (model prog w) A (setFlight e none) (fun _ s₃ => wpAny (model prog w) A (handleBy e (tEnv L f cd) toldHandlers) (fun f' s' => match f' with | .next => wpAny (model prog w) A (execs [] (tEnv L f cd)) Q E s' | f' => Q f' s') E s₃) E s₂) E s₁) s) :
    wpAny (model prog w) A (execs (fnBody 3) (tEnv L f cd)) Q E s := by
  obtain ⟨o, doc, pm, ct, an, ho, hd⟩ := W.fc.there
  refine wpAny_execs_cons ?_
  refine wpAny_Try_except ?_
  refine wpAny_execs_cons ?_
  refine wpAny_Return_some ?_
  refine wpAny_Call_NameR ?_
  refine ldC (X := X) W ?_
  refine Calls.callWith_function (o := o) (fd := fnOf "_count_elements" "_count_elements" (fnParams 1) (fnBody 1) (fnScope 1) .none .none doc pm an X.cc ct) ?_
  refine Calls.evalArgs_plain ?_
  refine Calls.spliced_cons ?_
  refine ldL hn hx ?_
  refine Calls.spliced_cons ?_
  refine ldL hn hy ?_
  refine Calls.spliced_nil ?_
  exact ⟨⟨ho, hd⟩, h⟩
end
end Mine

namespace Mine

section
variable {prog : Program} {w : World} {A : Around} {E : Value → Shared → Prop} {s : Shared} {fr : List Env} {d l : Addr} {X : Fns} {h₀ : Heap} {Q : Value → Shared → Prop}

theorem told_enter {x y : Value} {R : Result → Shared → Prop} {ft : Addr} {cd : Value} (F : FnAt s.heap ft "_law_told" 3 cd) (hlim : s.heap.NoLimit) (hroom : A.depth < recursionLimit)
    (h : ∀ h₁, h₁.Ns s.heap.objs.size (fun z => ([("tally", x), ("row", y)] : List (Str × Value)).reverse.lookup z) → (∀ b o, s.heap.get? b = some o → h₁.get? b = some o) →
      wpAny (model prog w) (A.deeper (tEnv s.heap.objs.size ft cd)) (execs (fnBody 3) (tEnv s.heap.objs.size ft cd)) (fun f s' => R (.ok (.ret (match f with | .ret v => v | _ => .none))) s')
        (fun e s' => wpAny (model prog w) (A.deeper (tEnv s.heap.objs.size ft cd)) (leaving (tEnv s.heap.objs.size ft cd) e) (fun _ s'' => R (.error e) s'') (fun e' s'' => R (.error e') s'') s')
        { s with heap := h₁, toks := s.toks + 2 }) :
    codeAny (model prog w) A (.call (.ref ft) ⟨[x, y], []⟩) R s := by
  obtain ⟨o, doc, pm, ct, an, ho, hd⟩ := F.there
  refine codeAny_call_def (binds := [("tally", x), ("row", y)]) hroom ho hd hlim F.code rfl (BindsTo.of_eq (by with_unfolding_all rfl)) ?_ ?_ h rfl rfl rfl
  · show ∀ x ∈ (fnScope 3).names, x.2 ≠ .cell
    decide
  · exact locs (by with_unfolding_all rfl)

/-- the frames on the stack, new since h₀ -/
structure Stk (h₀ h : Heap) (A : Around) (fr : List Env) : Prop where
  frames : A.frames = some fr
  fun_ : h.FunFrames {} fr
  new : ∀ b ∈ frs fr, h₀.get? b = none
  base : ∀ b o, h₀.get? b = some o → h.get? b = some o
  hand : A.handled = none
  room : A.depth + 10 < recursionLimit
  units : A.units + 100 < cLine

set_option maxHeartbeats 1000000 in
theorem told_call {vs : List Value} {ts : List Th} {cs : Tab} {kvs : List (Key × Value)} (W : Wd h₀ X) (S : Stk h₀ s.heap A fr) (hdn : h₀.get? d = none) (hdf : d ∉ frs fr)
    (hmod : (d == sysModules) = false) (hsz : cs.length + ts.length ≤ 1000)
    (hD : s.heap.DictOf (mixKind prog w) d kvs) (hT : TabIs kvs cs) (hl : s.heap.IsList l vs.toArray) (hth : ThAll s.heap vs ts)
    (k : ∀ h' tk cs' ok v, countRun cs ts = (cs', ok) → (v = if ok then Value.none else .str "refused" (tk - 1)) → (∃ kvs', h'.DictOf (mixKind prog w) d kvs' ∧ TabIs kvs' cs') →
      (∀ b o, b ∉ frs fr → b ≠ d → s.heap.get? b = some o → h'.get? b = some o) → (∀ b o, b ∈ frs fr → s.heap.get? b = some o → ∃ sl, h'.get? b = some { o with slots := sl }) → Q v { s with heap := h', toks := tk }) :
    wpAny (model prog w) A (call (.ref X.t) [.ref d, .ref l]) Q E s := by
  have W₁ := W.keeps S.base
  have hdlt : d < s.heap.objs.size := by obtain ⟨o, _, _, ho, _⟩ := hD; exact Heap.lt_size ho
  have hk0 : ∀ b o, s.heap.get? b = some o → b ≠ s.heap.objs.size := fun b o e => Nat.ne_of_lt (Heap.lt_size e)
  refine wpAny_call (told_enter W₁.ft W₁.lim (by have := S.room; omega) fun h₁ hn hk => ?_)
  have W₂ : Wd h₁ X := W₁.keeps hk
  have hfrs : frs (tEnv s.heap.objs.size X.t X.tc :: fr) = s.heap.objs.size :: frs fr := rfl
  have hfr₁ : (A.deeper (tEnv s.heap.objs.size X.t X.tc)).frames = some (tEnv s.heap.objs.size X.t X.tc :: fr) := Around.frames_deeper S.frames
  have hF₁ : h₁.FunFrames {} (tEnv s.heap.objs.size X.t X.tc :: fr) :=
    Heap.FunFrames.cons (show (fnScope 3).kind ≠ .module by decide) rfl hn rfl (funFrames_old S.fun_ fun b o _ e => hk b o e)
  refine told_body (s := { s with heap := h₁, toks := s.toks + 2 }) (X := X) W₂ hn (by rfl) (by rfl) ?_
  refine count_call (s := { s with heap := h₁, toks := s.toks + 2 }) (d := d) (l := l) (vs := vs) (ts := ts) (cs := cs) (kvs := kvs) W₂.fc W₂.lim (by show A.depth + 1 < _; have := S.room; omega) hfr₁ hF₁ ?_ S.hand (by show A.units + 3 + 4 < _; have := S.units; omega) hmod hsz (dictOf_keeps hD hk) hT ?_ ?_ ?_ ?_
  · rw [hfrs]
    intro q
    exact (List.mem_cons.mp q).elim (fun q => Nat.ne_of_lt hdlt q) hdf
  · obtain ⟨o, ho, r⟩ := hl; exact ⟨o, hk _ _ ho, r⟩
  · exact hth.kept fun b o _ _ ho _ => hk b o ho
  · intro h' tk cs' hr hdict hkeep
    exact k h' tk cs' true _ hr rfl hdict (fun b o _ hb e => hkeep b o hb (hk b o e)) fun b o hb e => ⟨o.slots, hkeep b o (fun q => hdf (q ▸ hb)) (hk b o e)⟩
  · intro h' B a0 tk e cs' hr hfl hdict hkeep hslots
    rw [hfrs] at hkeep hslots
    have hBk : ∀ b o, b ∉ frs fr → b ≠ d → s.heap.get? b = some o → B.get? b = some o := fun b o hb1 hb2 e =>
      hkeep b o (fun q => (List.mem_cons.mp q).elim (hk0 b o e) hb1) hb2 (hk b o e)
    have WB : Wd B X := W.keeps fun b o e => hBk b o (fun q => by rw [S.new b q] at e; cases e) (fun q => by rw [q, hdn] at e; cases e) (S.base b o e)
    refine told_catch_type (s := { s with heap := h', toks := tk }) (X := X) WB hfr₁ hfl fun h'' tk'' hst hup => ?_
    refine k h'' (tk'' + 1) cs' false _ hr rfl ?_ (fun b o hb1 hb2 e => hst b o (hBk b o hb1 hb2 e)) fun b o hb e => ?_
    · obtain ⟨kvs', hD', hT'⟩ := hdict
      exact ⟨kvs', dictOf_keeps hD' hst, hT'⟩
    · obtain ⟨sl, h1⟩ := hslots b o (List.mem_cons_of_mem _ hb) (hk b o e)
      obtain ⟨sl', h2⟩ := hup b _ h1 (show ∀ vs, o.data ≠ .fields vs from frs_not_fields S.fun_ hb e)
      exact ⟨sl', h2⟩

theorem told_call_int {n : Int} {t : Tok} {kvs : List (Key × Value)} (W : Wd h₀ X) (S : Stk h₀ s.heap A fr) (hD : s.heap.DictOf (mixKind prog w) d kvs)
    (k : ∀ h' tk, (∀ b o, b ∉ frs fr → s.heap.get? b = some o → h'.get? b = some o) → (∀ b o, b ∈ frs fr → s.heap.get? b = some o → ∃ sl, h'.get? b = some { o with slots := sl }) → Q (.str "refused" tk) { s with heap := h', toks := tk + 1 }) :
    wpAny (model prog w) A (call (.ref X.t) [.ref d, .int n t]) Q E s := by
  have W₁ := W.keeps S.base
  have hk0 : ∀ b o, s.heap.get? b = some o → b ≠ s.heap.objs.size := fun b o e => Nat.ne_of_lt (Heap.lt_size e)
  refine wpAny_call (told_enter W₁.ft W₁.lim (by have := S.room; omega) fun h₁ hn hk => ?_)
  have W₂ : Wd h₁ X := W₁.keeps hk
  have hfrs : frs (tEnv s.heap.objs.size X.t X.tc :: fr) = s.heap.objs.size :: frs fr := rfl
  have hfr₁ : (A.deeper (tEnv s.heap.objs.size X.t X.tc)).frames = some (tEnv s.heap.objs.size X.t X.tc :: fr) := Around.frames_deeper S.frames
  have hF₁ : h₁.FunFrames {} (tEnv s.heap.objs.size X.t X.tc :: fr) :=
    Heap.FunFrames.cons (show (fnScope 3).kind ≠ .module by decide) rfl hn rfl (funFrames_old S.fun_ fun b o _ e => hk b o e)
  refine told_body (s := { s with heap := h₁, toks := s.toks + 2 }) (X := X) W₂ hn (by rfl) (by rfl) ?_
  refine count_call_int (s := { s with heap := h₁, toks := s.toks + 2 }) (d := d) (kvs := kvs) W₂.fc W₂.lim (by show A.depth + 1 < _; have := S.room; omega) hfr₁ hF₁ S.hand (dictOf_keeps hD hk) ?_
  intro h' B a0 tk e hfl hkeep hslots
  rw [hfrs] at hkeep hslots
  have hBk : ∀ b o, b ∉ frs fr → s.heap.get? b = some o → B.get? b = some o := fun b o hb1 e =>
    hkeep b o (fun q => (List.mem_cons.mp q).elim (hk0 b o e) hb1) (hk b o e)
  have WB : Wd B X := W.keeps fun b o e => hBk b o (fun q => by rw [S.new b q] at e; cases e) (S.base b o e)
  refine told_catch_type (s := { s with heap := h', toks := tk }) (X := X) WB hfr₁ hfl fun h'' tk'' hst hup => ?_
  refine k h'' tk'' (fun b o hb1 e => hst b o (hBk b o hb1 e)) fun b o hb e => ?_
  obtain ⟨sl, h1⟩ := hslots b o (List.mem_cons_of_mem _ hb) (hk b o e)
  obtain ⟨sl', h2⟩ := hup b _ h1 (show ∀ vs, o.data ≠ .fields vs from frs_not_fields S.fun_ hb e)
  exact ⟨sl', h2⟩

theorem told_call_list {a : Addr} {y : Value} {o : Obj} {xs : Array Value} {kk : Nat} (W : Wd h₀ X) (S : Stk h₀ s.heap A fr) (ho : s.heap.get? a = some o) (hc : o.cls = .type "list") (hd : o.data = .seq xs kk) (hdd : o.dict = none)
    (k : ∀ h' tk, (∀ b o, b ∉ frs fr → s.heap.get? b = some o → h'.get? b = some o) → (∀ b o, b ∈ frs fr → s.heap.get? b = some o → ∃ sl, h'.get? b = some { o with slots := sl }) → Q (.str "no get" tk) { s with heap := h', toks := tk + 1 }) :
    wpAny (model prog w) A (call (.ref X.t) [.ref a, y]) Q E s := by
  have W₁ := W.keeps S.base
  have hk0 : ∀ b o, s.heap.get? b = some o → b ≠ s.heap.objs.size := fun b o e => Nat.ne_of_lt (Heap.lt_size e)
  refine wpAny_call (told_enter W₁.ft W₁.lim (by have := S.room; omega) fun h₁ hn hk => ?_)
  have W₂ : Wd h₁ X := W₁.keeps hk
  have hfrs : frs (tEnv s.heap.objs.size X.t X.tc :: fr) = s.heap.objs.size :: frs fr := rfl
  have hfr₁ : (A.deeper (tEnv s.heap.objs.size X.t X.tc)).frames = some (tEnv s.heap.objs.size X.t X.tc :: fr) := Around.frames_deeper S.frames
  have hF₁ : h₁.FunFrames {} (tEnv s.heap.objs.size X.t X.tc :: fr) :=
    Heap.FunFrames.cons (show (fnScope 3).kind ≠ .module by decide) rfl hn rfl (funFrames_old S.fun_ fun b o _ e => hk b o e)
  refine told_body (s := { s with heap := h₁, toks := s.toks + 2 }) (X := X) W₂ hn (by rfl) (by rfl) ?_
  refine count_call_list (s := { s with heap := h₁, toks := s.toks + 2 }) (a := a) (o := o) W₂.fc W₂.lim (by show A.depth + 1 < _; have := S.room; omega) hfr₁ hF₁ S.hand (hk _ _ ho) hc hd hdd ?_
  intro h' B a0 tk e hfl hkeep hslots
  rw [hfrs] at hkeep hslots
  have hBk : ∀ b o, b ∉ frs fr → s.heap.get? b = some o → B.get? b = some o := fun b o hb1 e =>
    hkeep b o (fun q => (List.mem_cons.mp q).elim (hk0 b o e) hb1) (hk b o e)
  have WB : Wd B X := W.keeps fun b o e => hBk b o (fun q => by rw [S.new b q] at e; cases e) (S.base b o e)
  refine told_catch_attr (s := { s with heap := h', toks := tk }) (X := X) WB hfr₁ hfl fun h'' tk'' hst hup => ?_
  refine k h'' tk'' (fun b o hb1 e => hst b o (hBk b o hb1 e)) fun b o hb e => ?_
  obtain ⟨sl, h1⟩ := hslots b o (List.mem_cons_of_mem _ hb) (hk b o e)
  obtain ⟨sl', h2⟩ := hup b _ h1 (show ∀ vs, o.data ≠ .fields vs from frs_not_fields S.fun_ hb e)
  exact ⟨sl', h2⟩
end
end Mine

namespace Mine

/-- what an iterator hands to a comprehension's clause -/
structure Draws (prog : Program) (w : World) (A : Around) (scope : Scope) (cl : List (Str × Addr)) (env : Env) (target : Expr) (it : Value) (fp : List Addr) (lim n : Nat) (St : Nat → Heap → Prop) (Bd : Nat → (Str → Option Value) → Prop) : Prop where
  frame : ∀ i h h', St i h → (∀ b o, b < lim → h.get? b = some o → h'.get? b = some o) → St i h'
  fpLt : ∀ b ∈ fp, b < lim
  noTup : ∀ i h b o, St i h → b ∈ fp → h.get? b = some o → o.cls ≠ .type "tuple"
  step : ∀ (C : Addr) i (s : Shared) m (Q : Shared → Prop) (E : Value → Shared → Prop), lim ≤ C → i < n → St i s.heap → s.heap.Ns C m →
    (∀ h' tk m', St (i + 1) h' → h'.Ns C m' → Bd i m' → (∀ b o, b ≠ C → b ∉ fp → s.heap.get? b = some o → h'.get? b = some o) → Q { s with heap := h', toks := tk }) →
    wpAny (model prog w) A (pyNext it) (fun r s₁ => ∃ v, r = some v ∧ wpAny (model prog w) A (letOwnedTupleGo target it v) (fun _ s₂ => wpAny (model prog w) A (assign target (compEnvC scope cl C env) v) (fun _ s₃ => Q s₃) E s₂) E s₁) E s
  done : ∀ (s : Shared) (Q : Shared → Prop) (E : Value → Shared → Prop), St n s.heap →
    (∀ h' tk, (∀ b o, b ∉ fp → s.heap.get? b = some o → h'.get? b = some o) → Q { s with heap := h', toks := tk }) → wpAny (model prog w) A (pyNext it) (fun r s₁ => r = none ∧ Q s₁) E s
  self : ∀ i (s : Shared) (Q : Value → Shared → Prop) (E : Value → Shared → Prop), St i s.heap → Q it s → wpAny (model prog w) A (pyIter it) Q E s

inductive Els (P : Nat → Value → Prop) : List Nat → List Value → Prop where
  | nil : Els P [] []
  | cons {i : Nat} {v : Value} {is : List Nat} {vs : List Value} : P i v → Els P is vs → Els P (i :: is) (v :: vs)
theorem Els.snoc {P : Nat → Value → Prop} {is : List Nat} {vs : List Value} (h : Els P is vs) {i : Nat} {v : Value} (hv : P i v) : Els P (is ++ [i]) (vs ++ [v]) := by
  induction h with
  | nil => exact .cons hv .nil
  | cons a _ ih => exact .cons a ih
theorem Els.mono {P P' : Nat → Value → Prop} {is : List Nat} {vs : List Value} (h : Els P is vs) (k : ∀ i v, P i v → P' i v) : Els P' is vs := by
  induction h with
  | nil => exact .nil
  | cons a _ ih => exact .cons (k _ _ a) ih
theorem Els.length {P : Nat → Value → Prop} {is : List Nat} {vs : List Value} (h : Els P is vs) : is.length = vs.length := by
  induction h with
  | nil => rfl
  | cons _ _ ih => simp [ih]

/-- tuples stay -/
def TupKept (h h' : Heap) : Prop := ∀ b o, h.get? b = some o → o.cls = .type "tuple" → (∃ xs n, o.data = .seq xs n) → h'.get? b = some o
theorem TupKept.trans {a b c : Heap} (x : TupKept a b) (y : TupKept b c) : TupKept a c := fun i o ho hc hd => y i o (x i o ho hc hd) hc hd
theorem TupKept.of_keeps {h h' : Heap} (k : ∀ b o, h.get? b = some o → h'.get? b = some o) : TupKept h h' := fun b o ho _ _ => k b o ho

section
variable {prog : Program} {w : World} {A : Around} {R : Result → Shared → Prop} {s : Shared} {scope : Scope} {cl : List (Str × Addr)} {env : Env} {target elt iter : Expr} {pos : Pos} {it : Value} {fp : List Addr} {lim n : Nat} {St : Nat → Heap → Prop} {Bd : Nat → (Str → Option Value) → Prop} {C D : Addr}

/-- between the turns -/
def CompInv (s : Shared) (fp : List Addr) (n : Nat) (St : Nat → Heap → Prop) (C D : Addr) (p : Nat → Bool) (Y : Nat → Heap → Value → Prop) (k : Nat) (s' : Shared) : Prop :=
  ∃ h' tk m' ys i, s' = { s with heap := h', toks := tk } ∧ St i h' ∧ h'.PlainList D ys ∧ h'.Ns C m' ∧ Els (fun j y => Y j h' y) ((List.range i).filter p) ys.toList ∧ i ≤ n ∧ k = n + 1 - i ∧
    (∀ b o, b ≠ C → b ∉ fp → b ≠ D → s.heap.get? b = some o → h'.get? b = some o)

theorem filter_range_true {p : Nat → Bool} {i : Nat} (h : p i = true) : (List.range (i + 1)).filter p = (List.range i).filter p ++ [i] := by
  rw [List.range_succ, List.filter_append]; simp [h]
theorem filter_range_false {p : Nat → Bool} {i : Nat} (h : p i = false) : (List.range (i + 1)).filter p = (List.range i).filter p := by
  rw [List.range_succ, List.filter_append]; simp [h]

set_option maxHeartbeats 1000000 in
theorem comp_turn {ER : Value → Shared → Prop} (G : Draws prog w A scope cl env target it fp lim n St Bd) (hC : lim ≤ C) (hD : lim ≤ D) (hCD : C ≠ D) (hn : n ≤ sizeLine) (p : Nat → Bool) (Y : Nat → Heap → Value → Prop)
    (Ymono : ∀ i h h' y, TupKept h h' → Y i h y → Y i h' y) {T : Sem Bool}
    (test : ∀ i s₂ m₂, i < n → s₂.heap.Ns C m₂ → Bd i m₂ → (∀ b o, b ≠ C → b ∉ fp → b ≠ D → s.heap.get? b = some o → s₂.heap.get? b = some o) → wpAny (model prog w) A T (fun ok s₃ => ok = p i ∧ Keeps s₂ s₃) ER s₂)
    (el : ∀ i s₂ m₂, i < n → p i = true → s₂.heap.Ns C m₂ → Bd i m₂ → (∀ b o, b ≠ C → b ∉ fp → b ≠ D → s.heap.get? b = some o → s₂.heap.get? b = some o) → wpAny (model prog w) A (eval elt (compEnvC scope cl C env)) (fun y s₃ => Y i s₃.heap y ∧ Keeps s₂ s₃) ER s₂)
    (hR : ∀ h' tk m' ys, h'.Ns C m' → h'.PlainList D ys → Els (fun j y => Y j h' y) ((List.range n).filter p) ys.toList → (∀ b o, b ≠ C → b ∉ fp → b ≠ D → s.heap.get? b = some o → h'.get? b = some o) → R (.ok .next) { s with heap := h', toks := tk })
    {k : Nat} {s' : Shared} (hI : CompInv s fp n St C D p Y k s') :
    wpAny (model prog w) A (pyNext it) (fun r s₁ => match r with
      | none => R (.ok .next) s₁
      | some v => wpAny (model prog w) A (letOwnedTupleGo target it v) (fun _ s₀ => wpAny (model prog w) A (assign target (compEnvC scope cl C env) v) (fun _ s₂ =>
          wpAny (model prog w) A T (fun ok s₃ => if ok = true then wpAny (model prog w) A (eval elt (compEnvC scope cl C env)) (fun x s₄ =>
            wpAny (model prog w) A (call (.builtin "list.append") [.ref D, x]) (fun _ s₅ => ∃ m, m < k ∧ CompInv s fp n St C D p Y m s₅) ER s₄) ER s₃
            else ∃ m, m < k ∧ CompInv s fp n St C D p Y m s₃) ER s₂)
          ER s₀) ER s₁) ER s' := by
  obtain ⟨H, tk, m', ys, i, rfl, hst, hacc, hns, hels, hi, rfl, hkeep⟩ := hI
  have hDf : D ∉ fp := fun h => Nat.lt_irrefl _ (Nat.lt_of_lt_of_le (G.fpLt D h) hD)
  by_cases hlt : i < n
  · refine wpAny_mono (G.step C i { s with heap := H, toks := tk } m' (fun s₂ => wpAny (model prog w) A T (fun ok s₃ => if ok = true then wpAny (model prog w) A (eval elt (compEnvC scope cl C env)) (fun x s₄ =>
            wpAny (model prog w) A (call (.builtin "list.append") [.ref D, x]) (fun _ s₅ => ∃ m, m < n + 1 - i ∧ CompInv s fp n St C D p Y m s₅) ER s₄) ER s₃
            else ∃ m, m < n + 1 - i ∧ CompInv s fp n St C D p Y m s₃) ER s₂) ER hC hlt hst hns ?_) (fun r s₁ h₁ => ?_) fun _ _ x => x
    · intro h₁ tk₁ m₁ hst₁ hns₁ hbd hk₁
      have tup₁ : TupKept H h₁ := fun b o ho hc hd => hk₁ b o (by
        rintro rfl
        obtain ⟨xs, nn, hd⟩ := hd
        exact ns_not_seq hns ho hd rfl) (fun hb => G.noTup i H b o hst hb ho hc) ho
      have hacc₁ : h₁.PlainList D ys := hacc.at fun o e => hk₁ D o (Ne.symm hCD) hDf e
      have hkeep₁ : ∀ b o, b ≠ C → b ∉ fp → b ≠ D → s.heap.get? b = some o → h₁.get? b = some o := fun b o h1 h2 h3 e => hk₁ b o h1 h2 (hkeep b o h1 h2 h3 e)
      have hels₁ := hels.mono fun j y hy => Ymono j H h₁ y tup₁ hy
      refine wpAny_mono (test i { s with heap := h₁, toks := tk₁ } m₁ hlt hns₁ hbd hkeep₁) (fun ok s₃ h₃ => ?_) fun _ _ x => x
      obtain ⟨rfl, h₃, tk₃, rfl, hk₃⟩ := h₃
      have hkeep₃ : ∀ b o, b ≠ C → b ∉ fp → b ≠ D → s.heap.get? b = some o → h₃.get? b = some o := fun b o h1 h2 h3 e => hk₃ b o (hkeep₁ b o h1 h2 h3 e)
      have hels₃ := hels₁.mono fun j y hy => Ymono j h₁ h₃ y (TupKept.of_keeps hk₃) hy
      have hst₃ : St (i + 1) h₃ := G.frame _ _ _ hst₁ fun b o _ e => hk₃ b o e
      cases hp : p i with
      | false =>
        rw [if_neg (by decide)]
        exact ⟨n + 1 - (i + 1), by omega, h₃, tk₃, m₁, ys, i + 1, rfl, hst₃, hacc₁.at fun o e => hk₃ D o e, hns₁.keeps hk₃, by rw [filter_range_false hp]; exact hels₃, hlt, rfl, hkeep₃⟩
      | true =>
        rw [if_pos rfl]
        refine wpAny_mono (el i { s with heap := h₃, toks := tk₃ } m₁ hlt hp (hns₁.keeps hk₃) hbd hkeep₃) (fun y s₄ h₄ => ?_) fun _ _ x => x
        obtain ⟨hY, h₄, tk₄, rfl, hk₄⟩ := h₄
        have hels₄ := hels₃.mono fun j y hy => Ymono j h₃ h₄ y (TupKept.of_keeps hk₄) hy
        have hacc₄ : h₄.PlainList D ys := (hacc₁.at fun o e => hk₃ D o e).at fun o e => hk₄ D o e
        have hsz : ys.size ≤ sizeLine := by
          have e1 := hels.length
          have e2 : ((List.range i).filter p).length ≤ (List.range i).length := List.length_filter_le _ _
          rw [List.length_range] at e2
          have e4 : ys.toList.length = ys.size := by simp
          omega
        refine wpAny_list_append_plain (s := { s with heap := h₄, toks := tk₄ }) (hsz := hsz) hacc₄ fun h₅ hl₅ hs₅ => ?_
        have tup₅ : TupKept h₄ h₅ := fun b o ho hc hd => (hs₅.2 b (by
          rintro rfl
          obtain ⟨nn, e⟩ := hacc₄
          rw [e] at ho; cases ho
          exact absurd (Value.type.inj hc) (by decide))).trans ho
        refine ⟨n + 1 - (i + 1), by omega, h₅, tk₄, m₁, ys.push y, i + 1, rfl, ?_, hl₅, ?_, ?_, hlt, rfl, fun b o h1 h2 h3 e => (hs₅.2 b h3).trans (hk₄ b o (hkeep₃ b o h1 h2 h3 e))⟩
        · exact G.frame _ _ _ hst₃ fun b o hb e => (hs₅.2 b fun q => Nat.lt_irrefl _ (Nat.lt_of_lt_of_le (q ▸ hb) hD)).trans (hk₄ b o e)
        · exact ((hns₁.keeps hk₃).keeps hk₄).sameBut hs₅ hCD
        · rw [filter_range_true hp, Array.toList_push]
          exact (hels₄.mono fun j y hy => Ymono j h₄ h₅ y tup₅ hy).snoc (Ymono i h₄ h₅ y tup₅ hY)
    · obtain ⟨v, rfl, h₁⟩ := h₁
      exact h₁
  · have hin : i = n := by omega
    subst hin
    refine wpAny_mono (G.done { s with heap := H, toks := tk } (fun s₁ => R (.ok .next) s₁) ER hst ?_) (fun r s₁ h₁ => ?_) fun _ _ x => x
    · intro h' tk' hk'
      have tup : TupKept H h' := fun b o ho hc _ => hk' b o (fun hb => G.noTup _ H b o hst hb ho hc) ho
      have hCf : C ∉ fp := fun h => Nat.lt_irrefl _ (Nat.lt_of_lt_of_le (G.fpLt C h) hC)
      exact hR h' tk' m' ys (hns.at' fun o e => hk' C o hCf e) (hacc.at fun o e => hk' D o hDf e) (hels.mono fun j y hy => Ymono j H h' y tup hy) fun b o h1 h2 h3 e => hk' b o h2 (hkeep b o h1 h2 h3 e)
    · obtain ⟨rfl, h₁⟩ := h₁
      exact h₁
end
end Mine

namespace Mine

section
variable {prog : Program} {w : World} {A : Around} {R : Result → Shared → Prop} {s : Shared} {scope : Scope} {cl : List (Str × Addr)} {env : Env} {target elt iter : Expr} {ifs : List Expr} {pos : Pos} {it : Value} {fp : List Addr} {lim n : Nat} {St : Nat → Heap → Prop} {Bd : Nat → (Str → Option Value) → Prop} {C D : Addr}

def testOf (ifs : List Expr) (env : Env) : Sem Bool := match ifs with
  | [] => pure true
  | c :: _ => isTrue c env (eval c env)

theorem comp_loop (hifs : ifs.length ≤ 1) (G : Draws prog w A scope cl env target it fp lim n St Bd) (hC : lim ≤ C) (hD : lim ≤ D) (hCD : C ≠ D) (hn : n ≤ sizeLine) (p : Nat → Bool) (Y : Nat → Heap → Value → Prop)
    (Ymono : ∀ i h h' y, TupKept h h' → Y i h y → Y i h' y)
    (test : ∀ i s₂ m₂ E', i < n → s₂.heap.Ns C m₂ → Bd i m₂ → (∀ b o, b ≠ C → b ∉ fp → b ≠ D → s.heap.get? b = some o → s₂.heap.get? b = some o) → wpAny (model prog w) A (testOf ifs (compEnvC scope cl C env)) (fun ok s₃ => ok = p i ∧ Keeps s₂ s₃) E' s₂)
    (el : ∀ i s₂ m₂ E', i < n → p i = true → s₂.heap.Ns C m₂ → Bd i m₂ → (∀ b o, b ≠ C → b ∉ fp → b ≠ D → s.heap.get? b = some o → s₂.heap.get? b = some o) → wpAny (model prog w) A (eval elt (compEnvC scope cl C env)) (fun y s₃ => Y i s₃.heap y ∧ Keeps s₂ s₃) E' s₂)
    (hR : ∀ h' tk m' ys, h'.Ns C m' → h'.PlainList D ys → Els (fun j y => Y j h' y) ((List.range n).filter p) ys.toList → (∀ b o, b ≠ C → b ∉ fp → b ≠ D → s.heap.get? b = some o → h'.get? b = some o) → R (.ok .next) { s with heap := h', toks := tk })
    (hst : St 0 s.heap) (hacc : s.heap.PlainList D #[]) {m : Str → Option Value} (hns : s.heap.Ns C m) :
    codeAny (model prog w) A (.compLoop (.ListComp elt [⟨target, iter, ifs, 0⟩] scope pos) 0 it (.ref D) (compEnvC scope cl C env)) R s := by
  have start : CompInv s fp n St C D p Y (n + 1) s := ⟨s.heap, s.toks, m, #[], 0, rfl, hst, hacc, hns, .nil, Nat.zero_le _, rfl, fun _ _ _ _ _ e => e⟩
  match ifs, hifs with
  | [], _ =>
    refine kcp_loop (CompInv s fp n St C D p Y) (fun k s' hI => ?_) (n + 1) start
    refine wpAny_mono (comp_turn (elt := elt) (ER := notedBy (model prog w) A (compEnvC scope cl C env) fun e s' => R (.error e) s') G hC hD hCD hn p Y Ymono (fun i s₂ m₂ a b c d => test i s₂ m₂ _ a b c d) (fun i s₂ m₂ a b c d e => el i s₂ m₂ _ a b c d e) hR hI) (fun r s₁ h₁ => ?_) fun _ _ x => x
    cases r with
    | none => exact h₁
    | some v =>
      refine wpAny_mono h₁ (fun _ s₂ h₂ => wpAny_mono h₂ (fun _ s₃ h₃ => ?_) fun _ _ x => x) fun _ _ x => x
      intro Γ q hΓ
      have := h₃ Γ q hΓ
      simpa [testOf] using this Γ q hΓ
  | [c], _ =>
    refine kct_loop (CompInv s fp n St C D p Y) (fun k s' hI => ?_) (n + 1) start
    exact comp_turn (elt := elt) G hC hD hCD hn p Y Ymono (fun i s₂ m₂ a b c d => test i s₂ m₂ _ a b c d) (fun i s₂ m₂ a b c d e => el i s₂ m₂ _ a b c d e) hR hI

/-- the block of a comprehension -/
theorem comp_block {E : Value → Shared → Prop} {RR : Value → Env → Result → Shared → Prop} (hifs : ifs.length ≤ 1) (G : Draws prog w A scope cl env target it fp s.heap.objs.size n St Bd) (hn : n ≤ sizeLine) (p : Nat → Bool) (Y : Nat → Heap → Value → Prop)
    (Ymono : ∀ i h h' y, TupKept h h' → Y i h y → Y i h' y) (hcell : ∀ y ∈ scope.names, y.2 ≠ .cell) (hkind : scope.kind = .function)
    (test : ∀ C i s₂ m₂ E', i < n → s₂.heap.Ns C m₂ → Bd i m₂ → (∀ b o, b ∉ fp → s.heap.get? b = some o → s₂.heap.get? b = some o) → wpAny (model prog w) A (testOf ifs (compEnvC scope cl C env)) (fun ok s₃ => ok = p i ∧ Keeps s₂ s₃) E' s₂)
    (el : ∀ C i s₂ m₂ E', i < n → p i = true → s₂.heap.Ns C m₂ → Bd i m₂ → (∀ b o, b ∉ fp → s.heap.get? b = some o → s₂.heap.get? b = some o) → wpAny (model prog w) A (eval elt (compEnvC scope cl C env)) (fun y s₃ => Y i s₃.heap y ∧ Keeps s₂ s₃) E' s₂)
    (hst : St 0 s.heap)
    (hRR : ∀ D C h' tk m' ys, s.heap.get? D = none → s.heap.get? C = none → D ≠ C → h'.Ns C m' → h'.PlainList D ys → Els (fun j y => Y j h' y) ((List.range n).filter p) ys.toList → (∀ b o, b ∉ fp → s.heap.get? b = some o → h'.get? b = some o) →
      RR (.ref D) (compEnvC scope cl C env) (.ok .next) { s with heap := h', toks := tk }) :
    wpAny (model prog w) A (newList []) (fun acc s₃ => wpAny (model prog w) A (newFunctionEnv scope env.globals cl [] env.qual none .none (some env)) (fun cenv s₄ =>
      codeAny (model prog w) A (.compStart (.ListComp elt [⟨target, iter, ifs, 0⟩] scope pos) 0 it acc { cenv with scope := relabel scope env }) (RR acc { cenv with scope := relabel scope env }) s₄) E s₃) E s := by
  refine wpAny_newObj_type (wpAny_newFunctionEnv hcell (by intro y hy; simp at hy) (fun h₁ hns₁ hsb₁ => ?_) hkind)
  dsimp only at hns₁ hsb₁ ⊢
  generalize hH2 : s.heap.push { cls := .type "list", dict := none, data := .seq ([] : List Value).toArray } = H2 at hns₁ hsb₁ ⊢
  have hC : H2.objs.size = s.heap.objs.size + 1 := by rw [← hH2, Heap.size_push]
  have hDC : s.heap.objs.size ≠ H2.objs.size := by rw [hC]; exact Nat.ne_of_lt (Nat.lt_succ_self _)
  have below : ∀ b, b < s.heap.objs.size → b ≠ H2.objs.size ∧ b ≠ s.heap.objs.size := fun b hb => ⟨by rw [hC]; exact Nat.ne_of_lt (Nat.lt_succ_of_lt hb), Nat.ne_of_lt hb⟩
  have old : ∀ b o, s.heap.get? b = some o → h₁.get? b = some o := fun b o e => hsb₁.extBut b o (below b (Heap.lt_size e)).1 (Heap.get?_push_of_some _ (hH2 ▸ Heap.get?_push_of_some _ e))
  have hacc : h₁.PlainList s.heap.objs.size #[] := ⟨_, hsb₁.extBut _ _ hDC (Heap.get?_push_of_some _ (hH2 ▸ Heap.get?_push_size _ rfl))⟩
  have hst₁ : St 0 h₁ := G.frame _ _ _ hst fun b o _ e => old b o e
  have fresh : ∀ a, s.heap.objs.size ≤ a → s.heap.get? a = none := fun a ha => Heap.get?_none_of_le ha
  have loop : ∀ s₃ : Shared, s₃ = { s with heap := h₁, toks := s.toks + ([] : List (Str × Value)).length } →
      codeAny (model prog w) A (.compLoop (.ListComp elt [⟨target, iter, ifs, 0⟩] scope pos) 0 it (.ref s.heap.objs.size) (compEnvC scope cl H2.objs.size env))
        (RR (.ref s.heap.objs.size) (compEnvC scope cl H2.objs.size env)) s₃ := by
    rintro s₃ rfl
    have keepTo : ∀ s₂ : Shared, (∀ b o, b ≠ H2.objs.size → b ∉ fp → b ≠ s.heap.objs.size → h₁.get? b = some o → s₂.heap.get? b = some o) → ∀ b o, b ∉ fp → s.heap.get? b = some o → s₂.heap.get? b = some o := fun s₂ hk b o hb e =>
      hk b o (below b (Heap.lt_size e)).1 hb (below b (Heap.lt_size e)).2 (old b o e)
    refine comp_loop (s := { s with heap := h₁, toks := s.toks + ([] : List (Str × Value)).length }) hifs G (by rw [hC]; exact Nat.le_succ _) (Nat.le_refl _) (Ne.symm hDC) hn p Y Ymono (fun i s₂ m₂ E' a b c d => test _ i s₂ m₂ E' a b c (keepTo s₂ d)) (fun i s₂ m₂ E' a b c d e => el _ i s₂ m₂ E' a b c d (keepTo s₂ e)) ?_ hst₁ hacc hns₁
    intro h' tk m' ys hn' hl' hels hk'
    exact hRR _ _ h' tk m' ys (fresh _ (Nat.le_refl _)) (fresh _ (by rw [hC]; exact Nat.le_succ _)) hDC hn' hl' hels fun b o hb e =>
      hk' b o (below b (Heap.lt_size e)).1 hb (below b (Heap.lt_size e)).2 (old b o e)
  exact codeAny_compStart_list (loop _ rfl) (G.self 0 _ _ _ hst₁ (loop _ rfl))
end
end Mine

namespace Mine

section
variable {prog : Program} {w : World} {A : Around} {E : Value → Shared → Prop} {s : Shared} {scope : Scope} {cl : List (Str × Addr)} {env : Env} {target elt iter : Expr} {ifs : List Expr} {pos : Pos}

structure CompOk (prog : Program) (w : World) (A : Around) (scope : Scope) (cl : List (Str × Addr)) (env : Env) (target elt : Expr) (ifs : List Expr) (it : Value) (s₂ : Shared) (fp : List Addr) (n : Nat) (St : Nat → Heap → Prop) (Bd : Nat → (Str → Option Value) → Prop)
    (p : Nat → Bool) (Y : Nat → Heap → Value → Prop) : Prop where
  draws : Draws prog w A scope cl env target it fp s₂.heap.objs.size n St Bd
  size : n ≤ sizeLine
  mono : ∀ i h h' y, TupKept h h' → Y i h y → Y i h' y
  test : ∀ C i s₃ m₃ E', i < n → s₃.heap.Ns C m₃ → Bd i m₃ → (∀ b o, b ∉ fp → s₂.heap.get? b = some o → s₃.heap.get? b = some o) → wpAny (model prog w) A (testOf ifs (compEnvC scope cl C env)) (fun ok s₄ => ok = p i ∧ Keeps s₃ s₄) E' s₃
  el : ∀ C i s₃ m₃ E', i < n → p i = true → s₃.heap.Ns C m₃ → Bd i m₃ → (∀ b o, b ∉ fp → s₂.heap.get? b = some o → s₃.heap.get? b = some o) → wpAny (model prog w) A (eval elt (compEnvC scope cl C env)) (fun y s₄ => Y i s₄.heap y ∧ Keeps s₃ s₄) E' s₃
  start : St 0 s₂.heap

theorem tupKept_ns {h h' : Heap} {C : Addr} {m : Str → Option Value} (hn : h.Ns C m) (hs : Heap.SameBut C h h') : TupKept h h' := fun b o ho _ hd => (hs.2 b (by
  obtain ⟨xs, n, hd⟩ := hd
  exact ns_not_seq hn ho hd)).trans ho

theorem comp_eval {Q : Value → Shared → Prop} (hifs : ifs.length ≤ 1) (hclos : closureFor scope env = pure cl) (hcell : ∀ y ∈ scope.names, y.2 ≠ .cell) (hkind : scope.kind = .function)
    (hnames : ∀ y ∈ scope.names, y.2 = .local → scope.names.lookup y.1 = some .local)
    (h : wpAny (model prog w) A (eval iter env) (fun xv s₁ => wpAny (model prog w) A (pyIter xv) (fun it s₂ => ∃ fp n St Bd p Y, CompOk prog w A scope cl env target elt ifs it s₂ fp n St Bd p Y ∧
      ∀ D h' tk ys, s₂.heap.get? D = none → h'.PlainList D ys → Els (fun j y => Y j h' y) ((List.range n).filter p) ys.toList → (∀ b o, b ∉ fp → s₂.heap.get? b = some o → h'.get? b = some o) → Q (.ref D) { s₂ with heap := h', toks := tk }) E s₁) E s)
    (hs : ∀ x, foldedSetIterable iter env x = pure x := by intro _; rfl) :
    wpAny (model prog w) A (eval (.ListComp elt [⟨target, iter, ifs, 0⟩] scope pos) env) Q E s := by
  rw [eval_ListComp]
  refine wpAny_comprehension_free (use := none) rfl hs hclos hkind hnames (wpAny_mono h (fun xv s₁ h₁ => wpAny_mono h₁ (fun it s₂ h₂ => ?_) fun _ _ x => x) fun _ _ x => x)
  obtain ⟨fp, n, St, Bd, p, Y, K, fin⟩ := h₂
  refine comp_block (RR := fun acc cenv => compPost (model prog w) A E none Q acc cenv.locals) hifs K.draws K.size p Y K.mono hcell hkind K.test K.el K.start ?_
  intro D C h' tk m' ys hD hC hDC hn hl hels hk
  refine ⟨m', hn, fun h'' hs'' => fin D h'' tk ys hD (hl.at fun o e => hs''.extBut D o hDC e) (hels.mono fun j y hy => K.mono j h' h'' y (tupKept_ns hn hs'') hy) fun b o hb e => hs''.extBut b o ?_ (hk b o hb e)⟩
  rintro rfl
  rw [hC] at e; cases e

theorem comp_assign {Q : Flow → Shared → Prop} {y : Str} {py spos : Pos} (hifs : ifs.length ≤ 1)
    (hsw : swapsWith (.ListComp elt [⟨target, iter, ifs, 0⟩] scope pos) (some (.Name y py)) spos.line env = pure true)
    (hclos : closureFor scope env = pure cl) (hcell : ∀ y ∈ scope.names, y.2 ≠ .cell) (hkind : scope.kind = .function)
    (hnames : ∀ y ∈ scope.names, y.2 = .local → scope.names.lookup y.1 = some .local)
    (hy : env.kindOf y = some .local) (hp : (env.scope.kind == .class || (env.scope.kind == .module && env.locals != env.globals)) = false)
    (h : wpAny (model prog w) A (eval iter env) (fun xv s₁ => wpAny (model prog w) A (pyIter xv) (fun it s₂ => ∃ fp n St Bd p Y m, CompOk prog w A scope cl env target elt ifs it s₂ fp n St Bd p Y ∧ env.locals ∉ fp ∧ s₂.heap.Ns env.locals m ∧
      ∀ D h' tk ys, s₂.heap.get? D = none → h'.PlainList D ys → Els (fun j y => Y j h' y) ((List.range n).filter p) ys.toList → h'.Ns env.locals (fun z => if z = y then some (.ref D) else m z) →
        (∀ b o, b ≠ env.locals → b ∉ fp → s₂.heap.get? b = some o → h'.get? b = some o) → Q .next { s₂ with heap := h', toks := tk }) E s₁) E s)
    (hs : ∀ x, foldedSetIterable iter env x = pure x := by intro _; rfl) :
    wpAny (model prog w) A (exec (.Assign [.Name y py] (.ListComp elt [⟨target, iter, ifs, 0⟩] scope pos) spos) env) Q E s := by
  rw [exec_Assign_Name_used _ _ _ _ hsw]
  refine wpAny_bind (wpAny_standAt (wpAny_bind ?_))
  show wpAny _ A (do let _ ← comprehension (.ListComp elt [⟨target, iter, ifs, 0⟩] scope pos) scope env _ (newList []) false (eval iter env) (some (assign (.Name y py) env))) _ _ s
  refine wpAny_bind (wpAny_mono (wpAny_comprehension_free (use := some (assign (.Name y py) env)) (Q := fun _ s' => Q .next s') rfl hs hclos hkind hnames
    (wpAny_mono h (fun xv s₁ h₁ => wpAny_mono h₁ (fun it s₂ h₂ => ?_) fun _ _ x => x) fun _ _ x => x)) (fun _ s' hq => wpAny_pure (wpAny_pure hq)) fun _ _ e => e)
  obtain ⟨fp, n, St, Bd, p, Y, m, K, hLf, hm, fin⟩ := h₂
  refine comp_block (RR := fun acc cenv => compPost (model prog w) A E (some (assign (.Name y py) env)) (fun _ s' => Q .next s') acc cenv.locals) hifs K.draws K.size p Y K.mono hcell hkind K.test K.el K.start ?_
  intro D C h' tk m' ys hD hC hDC hn hl hels hk
  have hLC : env.locals ≠ C := by rintro q; obtain ⟨o, _, _, ho, _⟩ := hm; rw [q, hC] at ho; cases ho
  have hLD : env.locals ≠ D := by rintro q; obtain ⟨o, _, _, ho, _⟩ := hm; rw [q, hD] at ho; cases ho
  have hm' : h'.Ns env.locals m := hm.at' fun o e => hk _ o hLf e
  show wpAny _ A (assign (.Name y py) env (.ref D)) _ _ _
  refine wpAny_assign_Name (wpAny_storeName_local hy hm' (fun h₂ hn₂ hs₂ => ?_) hp)
  have hnC₂ : h₂.Ns C m' := hn.sameBut hs₂ (Ne.symm hLC)
  refine ⟨m', hnC₂, fun h₃ hs₃ => ?_⟩
  have t2 : TupKept h' h₂ := tupKept_ns hm' hs₂
  have t3 : TupKept h₂ h₃ := tupKept_ns hnC₂ hs₃
  refine fin D h₃ _ ys hD ((hl.at fun o e => hs₂.extBut D o (Ne.symm hLD) e).at fun o e => hs₃.extBut D o hDC e) (hels.mono fun j y hy => K.mono j h' h₃ y (t2.trans t3) hy) (hn₂.sameBut hs₃ hLC) fun b o hb1 hb2 e => ?_
  refine hs₃.extBut b o ?_ (hs₂.extBut b o hb1 (hk b o hb2 e))
  rintro rfl
  rw [hC] at e; cases e
end
end Mine

namespace Mine

section
variable {prog : Program} {w : World} {A : Around} {scope : Scope} {cl : List (Str × Addr)} {env : Env} {lim : Nat}

theorem kind_relabel {x : Str} (hx : scope.names.lookup x = some .local) (C : Addr) : (compEnvC scope cl C env).kindOf x = some .local := lookup_relabel_local hx
theorem pl_relabel (hk : scope.kind = .function) (C : Addr) : ((compEnvC scope cl C env).scope.kind == .class || ((compEnvC scope cl C env).scope.kind == .module && (compEnvC scope cl C env).locals != (compEnvC scope cl C env).globals)) = false := by
  show ((relabel scope env).kind == .class || ((relabel scope env).kind == .module && _)) = false
  have : (relabel scope env).kind = .function := hk
  rw [this]; rfl

theorem IsListIter.at' {h h' : Heap} {I l : Addr} {i : Nat} (x : h.IsListIter I l i) (k : ∀ o, h.get? I = some o → h'.get? I = some o) : h'.IsListIter I l i :=
  let ⟨o, ho, r⟩ := x; ⟨o, k o ho, r⟩

theorem draws_list {x : Str} {px : Pos} {I l : Addr} {items : List Value} (hh : A.handled = none) (hx : scope.names.lookup x = some .local) (hk : scope.kind = .function) (hI : I < lim) (hl : l < lim) (hIl : l ≠ I) :
    Draws prog w A scope cl env (.Name x px) (.ref I) [I] lim items.length (fun i h => h.IsListIter I l i ∧ h.IsList l items.toArray) (fun i m => m x = items[i]?) where
  frame := fun i h h' st k => ⟨IsListIter.at' st.1 fun o e => k I o hI e, st.2.at fun o e => k l o hl e⟩
  fpLt := fun b hb => by rw [List.mem_singleton.mp hb]; exact hI
  noTup := fun i h b o st hb ho hc => by
    rw [List.mem_singleton.mp hb] at ho
    obtain ⟨⟨o', h1, h2, _⟩, _⟩ := st
    rw [ho] at h1; cases h1
    rw [hc] at h2; exact absurd (Value.type.inj h2) (by decide)
  step := fun C i s m Q E hC hi st hn hQ => by
    refine wpAny_pyNext_list_item (x := items[i]) st.1 st.2 (by simp [hi]) fun h₁ hit₁ hs₁ => ⟨_, rfl, ?_⟩
    refine wpAny_of_eq (a := ()) rfl ?_
    have hCI : C ≠ I := fun q => Nat.lt_irrefl _ (Nat.lt_of_lt_of_le (q ▸ hI : C < lim) hC)
    have hCl : C ≠ l := fun q => Nat.lt_irrefl _ (Nat.lt_of_lt_of_le (q ▸ hl : C < lim) hC)
    refine wpAny_assign_Name (wpAny_storeName_local (kind_relabel hx C) (hn.sameBut hs₁ hCI) (fun h₂ hn₂ hs₂ => ?_) (pl_relabel hk C))
    refine hQ h₂ _ _ ⟨IsListIter.at' hit₁ fun o e => (hs₂.2 I (Ne.symm hCI)).trans e, (st.2.extBut hs₁.extBut hIl).extBut hs₂.extBut (Ne.symm hCl)⟩ hn₂ ?_ fun b o hb1 hb2 e => (hs₂.2 b hb1).trans ((hs₁.2 b fun q => hb2 (by simp [q])).trans e)
    show (if _ then _ else _) = _
    rw [if_pos rfl]; simp [hi]
  done := fun s Q E st hQ => wpAny_pyNext_list_end hh st.1 st.2 (by simp) fun h' he => ⟨rfl, hQ h' s.toks fun b o hb e => he b o (fun q => hb (by simp [q])) e⟩
  self := fun i s Q E st hQ => wpAny_pyIter_listiter st.1 hQ

theorem draws_pairs {x y : Str} {px py tp : Pos} {kk : Nat} {I l : Addr} {items : List Value} {ps : List (Value × Value)} (hh : A.handled = none) (hx : scope.names.lookup x = some .local) (hy : scope.names.lookup y = some .local) (hxy : x ≠ y) (hk : scope.kind = .function) (hI : I < lim) (hl : l < lim) (hIl : l ≠ I)
    (hps : ps.length = items.length) :
    Draws prog w A scope cl env (.Tuple [.Name x px, .Name y py] kk tp) (.ref I) [I] lim items.length
      (fun i h => (h.IsListIter I l i ∧ h.IsList l items.toArray) ∧ ∀ (j : Nat) (v : Value) (p : Value × Value), items[j]? = some v → ps[j]? = some p → ∃ T, v = .ref T ∧ T < lim ∧ h.IsTuple T #[p.1, p.2]) (fun i m => ∃ p, ps[i]? = some p ∧ m x = some p.1 ∧ m y = some p.2) where
  frame := fun i h h' st k => ⟨⟨IsListIter.at' st.1.1 fun o e => k I o hI e, st.1.2.at fun o e => k l o hl e⟩, fun j v p hv hp => by
    obtain ⟨T, rfl, hT, o, ho, r⟩ := st.2 j v p hv hp
    exact ⟨T, rfl, hT, o, k T o hT ho, r⟩⟩
  fpLt := fun b hb => by rw [List.mem_singleton.mp hb]; exact hI
  noTup := fun i h b o st hb ho hc => by
    rw [List.mem_singleton.mp hb] at ho
    obtain ⟨⟨⟨o', h1, h2, _⟩, _⟩, _⟩ := st
    rw [ho] at h1; cases h1
    rw [hc] at h2; exact absurd (Value.type.inj h2) (by decide)
  step := fun C i s m Q E hC hi st hn hQ => by
    have hip : i < ps.length := by omega
    obtain ⟨T, hv, hT, hTup⟩ := st.2 i items[i] ps[i] (by simp [hi]) (by simp [hip])
    refine wpAny_pyNext_list_item (x := items[i]) st.1.1 st.1.2 (by simp [hi]) fun h₁ hit₁ hs₁ => ⟨_, rfl, ?_⟩
    rw [hv]
    refine wpAny_letOwnedTupleGo_listiter (s := { s with heap := h₁ }) hit₁ ?_
    have hCI : C ≠ I := fun q => Nat.lt_irrefl _ (Nat.lt_of_lt_of_le (q ▸ hI : C < lim) hC)
    have hCl : C ≠ l := fun q => Nat.lt_irrefl _ (Nat.lt_of_lt_of_le (q ▸ hl : C < lim) hC)
    have tI : ∀ T xs, s.heap.IsTuple T xs → T ≠ I := fun T xs ht q => by
      obtain ⟨o, ho, hc, _⟩ := ht
      obtain ⟨o', h1, h2, _⟩ := st.1.1
      rw [q, h1] at ho; cases ho; rw [hc] at h2; exact absurd (Value.type.inj h2) (by decide)
    have tup₁ : ∀ T xs, s.heap.IsTuple T xs → h₁.IsTuple T xs := fun T xs ht => by
      have hne := tI T xs ht
      obtain ⟨o, ho, r⟩ := ht
      exact ⟨o, (hs₁.2 T hne).trans ho, r⟩
    refine kcp_assign (s := { s with heap := h₁ }) hh (tup₁ T _ hTup) (kind_relabel hx C) (kind_relabel hy C) (pl_relabel hk C) (hn.sameBut hs₁ hCI) fun h₂ tk₂ hn₂ hk₂ => ?_
    refine hQ h₂ tk₂ _ ⟨⟨IsListIter.at' hit₁ fun o e => hk₂ I o (Ne.symm hCI) e, (st.1.2.extBut hs₁.extBut hIl).at fun o e => hk₂ l o (Ne.symm hCl) e⟩, fun j v p hv hp => ?_⟩ hn₂ ⟨ps[i], by simp [hip], ?_, ?_⟩ fun b o hb1 hb2 e => hk₂ b o hb1 ((hs₁.2 b fun q => hb2 (by simp [q])).trans e)
    · obtain ⟨T', rfl, hT', ht'⟩ := st.2 j v p hv hp
      obtain ⟨o, ho, r⟩ := tup₁ T' _ ht'
      exact ⟨T', rfl, hT', o, hk₂ T' o (fun (q : T' = C) => Nat.lt_irrefl _ (Nat.lt_of_lt_of_le (q ▸ hT' : C < lim) hC)) ho, r⟩
    · show (if _ then _ else if _ then _ else _) = _
      rw [if_neg hxy, if_pos rfl]
    · show (if _ then _ else _) = _
      rw [if_pos rfl]
  done := fun s Q E st hQ => wpAny_pyNext_list_end hh st.1.1 st.1.2 (by simp) fun h' he => ⟨rfl, hQ h' s.toks fun b o hb e => he b o (fun q => hb (by simp [q])) e⟩
  self := fun i s Q E st hQ => wpAny_pyIter_listiter st.1.1 hQ

theorem draws_enum {x y : Str} {px py tp : Pos} {kk : Nat} {I J l : Addr} {items : List Value} (hh : A.handled = none) (hx : scope.names.lookup x = some .local) (hy : scope.names.lookup y = some .local) (hxy : x ≠ y) (hk : scope.kind = .function) (hI : I < lim) (hJ : J < lim) (hl : l < lim) (hIJ : I ≠ J) (hlI : l ≠ I) (hlJ : l ≠ J) :
    Draws prog w A scope cl env (.Tuple [.Name x px, .Name y py] kk tp) (.ref I) [I, J] lim items.length
      (fun i h => (∃ old, IsEnum h I J i old) ∧ h.IsListIter J l i ∧ h.IsList l items.toArray) (fun i m => (∃ t, m x = some (.int i t)) ∧ m y = items[i]?) where
  frame := fun i h h' st k => ⟨by obtain ⟨old, e⟩ := st.1; exact ⟨old, k I _ hI e⟩, IsListIter.at' st.2.1 fun o e => k J o hJ e, st.2.2.at fun o e => k l o hl e⟩
  fpLt := fun b hb => by
    rcases List.mem_cons.mp hb with rfl | hb
    · exact hI
    · rw [List.mem_singleton.mp hb]; exact hJ
  noTup := fun i h b o st hb ho hc => by
    rcases List.mem_cons.mp hb with rfl | hb
    · obtain ⟨⟨old, e⟩, _⟩ := st
      rw [e] at ho; cases ho
      exact absurd (Value.type.inj hc) (by decide)
    · rw [List.mem_singleton.mp hb] at ho
      obtain ⟨_, ⟨o', h1, h2, _⟩, _⟩ := st
      rw [ho] at h1; cases h1
      rw [hc] at h2; exact absurd (Value.type.inj h2) (by decide)
  step := fun C i s m Q E hC hi st hn hQ => by
    have W := WalksT.enumerate (prog := prog) (w := w) hh I J l hIJ hlI hlJ items.toArray
    have hi' : i < items.toArray.size := by simpa using hi
    have nC : ∀ b, b < lim → C ≠ b := fun b hb q => Nat.lt_irrefl _ (Nat.lt_of_lt_of_le (q ▸ hb : C < lim) hC)
    have hCwr : C ∉ [I, J] := fun hm => by
      rcases List.mem_cons.mp hm with q | hm
      · exact nC I hI q
      · exact nC J hJ (List.mem_singleton.mp hm)
    refine W.item i s _ E hi' st fun T vals h₁ tk₁ hP hTs hTup hMid hk₁ => ⟨_, rfl, ?_⟩
    obtain ⟨t, v, hv, rfl⟩ := hP
    refine W.go _ _ _ i T { s with heap := h₁, toks := tk₁ } _ E hMid fun h₂ hst₂ hk₂ => ?_
    have hTwr := W.apart i T h₁ hMid
    have hTup₂ : h₂.IsTuple T #[.int i t, v] := by obtain ⟨o, ho, r⟩ := hTup; exact ⟨o, hk₂ T o hTwr ho, r⟩
    have hn₂ : h₂.Ns C m := (hn.at' fun o e => hk₁ C o hCwr e).at' fun o e => hk₂ C o hCwr e
    refine kcp_assign (s := { s with heap := h₂, toks := tk₁ }) hh hTup₂ (kind_relabel hx C) (kind_relabel hy C) (pl_relabel hk C) hn₂ fun h₃ tk₃ hn₃ hk₃ => ?_
    refine hQ h₃ tk₃ _ (W.frame _ _ _ hst₂ fun b hb o e => hk₃ b o ?_ e) hn₃ ⟨⟨t, ?_⟩, ?_⟩ fun b o hb1 hb2 e => hk₃ b o hb1 (hk₂ b o hb2 (hk₁ b o hb2 e))
    · rcases List.mem_cons.mp hb with rfl | hb
      · exact Ne.symm (nC _ hI)
      · rcases List.mem_cons.mp hb with rfl | hb
        · exact Ne.symm (nC _ hJ)
        · rw [List.mem_singleton.mp hb]; exact Ne.symm (nC _ hl)
    · show (if _ then _ else if _ then _ else _) = _
      rw [if_neg hxy, if_pos rfl]
    · show (if _ then _ else _) = _
      rw [if_pos rfl]
      simpa using hv.symm
  done := fun s Q E st hQ => by
    have W := WalksT.enumerate (prog := prog) (w := w) hh I J l hIJ hlI hlJ items.toArray
    refine W.done s _ E (by simpa using st) fun h' tk hk => ⟨rfl, hQ h' tk hk⟩
  self := fun i s Q E st hQ => by obtain ⟨⟨old, e⟩, _⟩ := st; exact wpAny_pyIter_enum e hQ
end
end Mine

namespace Mine
open PySem.SeqAt

inductive KAll : List Value → List Key → Prop where
  | nil : KAll [] []
  | cons {v : Value} {k : Key} {vs : List Value} {ks : List Key} : keyIs k v = true → KAll vs ks → KAll (v :: vs) (k :: ks)
theorem KAll.length {vs : List Value} {ks : List Key} (h : KAll vs ks) : vs.length = ks.length := by
  induction h with
  | nil => rfl
  | cons _ _ ih => simp [ih]
theorem KAll.get {vs : List Value} {ks : List Key} (h : KAll vs ks) : ∀ {i : Nat} {v : Value}, vs[i]? = some v → ∃ k, ks[i]? = some k ∧ keyIs k v = true := by
  induction h with
  | nil => intro i v e; simp at e
  | cons a _ ih =>
    intro i v e
    cases i with
    | zero => simp at e; subst e; exact ⟨_, rfl, a⟩
    | succ i => exact ih (by simpa using e)
theorem keyIs_decide {k k' : Key} {v : Value} (h : keyIs k v = true) : keyIs k' v = decide (k = k') := by
  rcases keyIs_shape h with ⟨n, t, rfl, rfl⟩ | ⟨x, t, rfl, rfl⟩
  · cases k' with
    | inl n' =>
      by_cases e : n = n' <;> simp [keyIs, Value.isInt, e]
    | inr y => simp [keyIs, Value.isStrOf]
  · cases k' with
    | inl n' => simp [keyIs, Value.isInt]
    | inr y => by_cases e : x = y <;> simp [keyIs, Value.isStrOf, e]
def hasK (ks : List Key) (k : Key) : Bool := ks.any fun x => decide (x = k)
def cntK (ks : List Key) (k : Key) : Nat := ks.countP fun x => decide (x = k)
theorem KAll.any {vs : List Value} {ks : List Key} (h : KAll vs ks) (k : Key) : vs.any (keyIs k) = hasK ks k := by
  unfold hasK
  induction h with
  | nil => simp
  | @cons v k' vs ks a _ ih => rw [List.any_cons, List.any_cons, ih, keyIs_decide a]
theorem KAll.countP {vs : List Value} {ks : List Key} (h : KAll vs ks) (k : Key) : vs.countP (keyIs k) = cntK ks k := by
  unfold cntK
  induction h with
  | nil => simp
  | @cons v k' vs ks a _ ih => rw [List.countP_cons, List.countP_cons, ih, keyIs_decide a]
theorem eqAt_key {A : Around} {s : Shared} {k k' : Key} {v v' : Value} (h : keyIs k v = true) (h' : keyIs k' v' = true) : EqAt A s v v' (keyIs k' v) := by
  intro prog w E Q hq
  refine (mixKind prog w).eqBool (a := k) (b := k') h h' ?_
  rw [keyIs_decide h] at hq
  exact hq
theorem KAll.eqAll {A : Around} {s : Shared} {vs : List Value} {ks : List Key} (h : KAll vs ks) {k : Key} {v : Value} (hv : keyIs k v = true) : ∀ y, y ∈ vs.toArray → EqAt A s y v (keyIs k y) := by
  intro y hy
  obtain ⟨i, hi⟩ := List.mem_iff_getElem?.mp (by simpa using hy)
  obtain ⟨k', _, hk'⟩ := h.get hi
  exact eqAt_key hk' hv

section
variable {prog : Program} {w : World} {A : Around} {E : Value → Shared → Prop} {s : Shared} {env : Env} {l : Addr} {items : List Value} {ks : List Key} {k : Key} {v : Value} {o e : Expr} {apos pos : Pos}

theorem in_keys {Q : Value → Shared → Prop} (hl : s.heap.IsList l items.toArray) (hK : KAll items ks) (hv : keyIs k v = true) (h : Q (.bool (hasK ks k)) s) : wpAny (model prog w) A (compareOp .In v (.ref l)) Q E s :=
  in_listAt (keyIs k) hl (hK.eqAll hv) (by rw [List.any_toArray, hK.any]; exact h)
theorem notIn_keys {Q : Value → Shared → Prop} (hl : s.heap.IsList l items.toArray) (hK : KAll items ks) (hv : keyIs k v = true) (h : Q (.bool (!hasK ks k)) s) : wpAny (model prog w) A (compareOp .NotIn v (.ref l)) Q E s :=
  notIn_listAt (keyIs k) hl (hK.eqAll hv) (by rw [List.any_toArray, hK.any]; exact h)

theorem eval_count {Q : Value → Shared → Prop} (ho : ∀ Q' : Value → Shared → Prop, Q' (.ref l) s → wpAny (model prog w) A (eval o env) Q' E s) (he : ∀ Q' : Value → Shared → Prop, Q' v s → wpAny (model prog w) A (eval e env) Q' E s)
    (hl : s.heap.PlainList l items.toArray) (hK : KAll items ks) (hv : keyIs k v = true)
    (h : Q (.int (cntK ks k : Nat) s.toks) { s with toks := s.toks + 1 })
    (hbase : attributeBase o "count" env (eval o env) = eval o env := by rfl)
    (htrees : backTo pos (starEach [e] env) = [(false, eval e env)] := by rfl) (hline : (apos.endLine == pos.line) = true := by rfl) :
    wpAny (model prog w) A (eval (.Call (.Attribute o "count" apos) [e] [] pos) env) Q E s := by
  obtain ⟨n, hn⟩ := hl
  refine wpAny_Call_method (T := "list") (id := "list.count") hbase (by rw [htrees]; rfl) hline F.plainAttrs_list F.slot_list_count F.type_list_count (ho _ ⟨⟨_, hn, rfl⟩, fun a q => by cases q; exact ⟨_, hn, rfl⟩, ?_⟩)
  rw [htrees]
  refine method_meets F.slot_list_count F.entry_list_count rfl (Calls.evalArgs_plain (Calls.spliced_cons (he _ (Calls.spliced_nil ⟨rfl, ⟨_, hn, rfl⟩, F.args_list_count_2 _ _, _, list_countAt l items.toArray n none #[] v (keyIs k), hn, hK.eqAll hv, ?_⟩))))
  rw [show items.toArray.toList = items from rfl, hK.countP]
  exact h
end
end Mine

namespace Mine
open PySem.SeqAt

def idxK (ks : List Key) (k : Key) : Nat := ks.findIdx fun x => decide (x = k)
theorem idxK_spec {ks : List Key} {k : Key} (h : hasK ks k = true) : idxK ks k < ks.length ∧ ks[idxK ks k]? = some k ∧ ∀ m, m < idxK ks k → ∀ x, ks[m]? = some x → x ≠ k := by
  have hex : ∃ x ∈ ks, decide (x = k) = true := by simpa [hasK, List.any_eq_true] using h
  have hlt : idxK ks k < ks.length := List.findIdx_lt_length.mpr hex
  refine ⟨hlt, ?_, fun m hm x hx q => ?_⟩
  · rw [List.getElem?_eq_getElem hlt]
    have := List.findIdx_getElem (w := hlt) (xs := ks) (p := fun x => decide (x = k))
    exact congrArg some (of_decide_eq_true this)
  · have h1 := List.not_of_lt_findIdx hm
    have hm' : m < ks.length := Nat.lt_trans hm hlt
    rw [List.getElem?_eq_getElem hm'] at hx
    cases hx
    rw [decide_eq_true q] at h1; cases h1

section
variable {prog : Program} {w : World} {A : Around} {E : Value → Shared → Prop} {s : Shared} {env : Env} {l : Addr} {items : List Value} {ks : List Key} {k : Key} {v : Value} {o e : Expr} {apos pos : Pos}

theorem eval_index {Q : Value → Shared → Prop} (ho : ∀ Q' : Value → Shared → Prop, Q' (.ref l) s → wpAny (model prog w) A (eval o env) Q' E s) (he : ∀ Q' : Value → Shared → Prop, Q' v s → wpAny (model prog w) A (eval e env) Q' E s)
    (hl : s.heap.PlainList l items.toArray) (hK : KAll items ks) (hv : keyIs k v = true) (hin : hasK ks k = true) (hsz : ks.length ≤ 1000)
    (h : Q (.int (idxK ks k : Nat) s.toks) { s with toks := s.toks + 1 })
    (hbase : attributeBase o "index" env (eval o env) = eval o env := by rfl)
    (htrees : backTo pos (starEach [e] env) = [(false, eval e env)] := by rfl) (hline : (apos.endLine == pos.line) = true := by rfl) :
    wpAny (model prog w) A (eval (.Call (.Attribute o "index" apos) [e] [] pos) env) Q E s := by
  obtain ⟨n, hn⟩ := hl
  obtain ⟨h1, h2, h3⟩ := idxK_spec hin
  have hlen := hK.length
  have hlt : idxK ks k < items.toArray.size := by simp; omega
  refine wpAny_Call_method (T := "list") (id := "list.index") hbase (by rw [htrees]; rfl) hline F.plainAttrs_list F.slot_list_index F.type_list_index (ho _ ⟨⟨_, hn, rfl⟩, fun a q => by cases q; exact ⟨_, hn, rfl⟩, ?_⟩)
  rw [htrees]
  have hitem : ∀ m (hm : m < items.toArray.size), keyIs k items.toArray[m] = true ↔ ks[m]? = some k := by
    intro m hm
    have hm' : m < items.length := by simpa using hm
    obtain ⟨k', e1, e2⟩ := hK.get (i := m) (v := items[m]) (by simp [hm'])
    rw [e1]
    have e3 : items.toArray[m] = items[m] := by simp
    rw [e3, keyIs_decide e2]
    simp
  refine method_meets F.slot_list_index F.entry_list_index rfl (Calls.evalArgs_plain (Calls.spliced_cons (he _ (Calls.spliced_nil ⟨rfl, ⟨_, hn, rfl⟩, F.args_list_index_2 _ _, _,
    list_indexAt l items.toArray n none #[] v (keyIs k) (idxK ks k) hlt (by omega) ((hitem _ hlt).mpr h2) (fun m hm hmj => ?_), hn, hK.eqAll hv, h⟩))))
  cases hc : keyIs k items.toArray[m] with
  | false => rfl
  | true => exact absurd rfl (h3 m hmj k ((hitem m hm).mp hc))
end

abbrev nEnv (L f : Addr) (cd : Value) : Env := envOfC "_law_counted" (fnScope 4) L f cd

def compScope (st : Option Stmt) : Scope := match st with
  | some (.Assign _ (.ListComp _ _ sc _) _) => sc
  | some (.Return (some (.BinOp _ _ (.ListComp _ _ sc _) _)) _) => sc
  | _ => { kind := .function, names := [], isGenerator := false, isCoroutine := false, more := [] }

abbrev cScope (i : Nat) : Scope := compScope ((fnBody 4)[i]?)

theorem clos0 (L f : Addr) (cd : Value) : closureFor (cScope 0) (nEnv L f cd) = pure [] := by with_unfolding_all rfl
theorem clos1 (L f : Addr) (cd : Value) : closureFor (cScope 1) (nEnv L f cd) = pure ([("part", L + 1), ("known", L + 2)] : List (Str × Addr)) := by with_unfolding_all rfl
theorem clos2 (L f : Addr) (cd : Value) : closureFor (cScope 2) (nEnv L f cd) = pure ([("part", L + 1)] : List (Str × Addr)) := by with_unfolding_all rfl
theorem clos3 (L f : Addr) (cd : Value) : closureFor (cScope 3) (nEnv L f cd) = pure ([("part", L + 1)] : List (Str × Addr)) := by with_unfolding_all rfl
end Mine

namespace Mine
open PySem.SeqAt

section
variable {M : Model} {A : Around} {E : Value → Shared → Prop} {s : Shared} {scope : Scope} {cl : List (Str × Addr)} {C : Addr} {env : Env} {x : Str} {pos : Pos} {v : Value} {m : Str → Option Value} {Q : Value → Shared → Prop}
theorem ldK (hn : s.heap.Ns C m) (hv : m x = some v) (h : Q v s) (hk : scope.kind = .function := by rfl) (hl : scope.names.lookup x = some .local := by rfl) (hd : (x == ("__debug__" : Str)) = false := by decide) :
    wpAny M A (eval (.Name x pos) (compEnvC scope cl C env)) Q E s := wpAny_Name (wpAny_loadName_local hk (kind_relabel hl C) hn hv h) hd
theorem ldKc {c : Addr} (hc : cl.lookup x = some c) (hv : s.heap.IsCell c (some v)) (h : Q v s) (hk : scope.kind = .function := by rfl) (hx : (compEnvC scope cl C env).kindOf x = some .cell := by rfl) (hd : (x == ("__debug__" : Str)) = false := by decide) :
    wpAny M A (eval (.Name x pos) (compEnvC scope cl C env)) Q E s := wpAny_Name (wpAny_loadName_cell hk hx hc hv h) hd
end

inductive PAll : List (Value × Value) → Tab → Prop where
  | nil : PAll [] []
  | cons {p : Value × Value} {k : Key} {c : Cnt} {ps : List (Value × Value)} {cs : Tab} : keyIs k p.1 = true → c.is p.2 → PAll ps cs → PAll (p :: ps) ((k, c) :: cs)
theorem PAll.length {ps : List (Value × Value)} {cs : Tab} (h : PAll ps cs) : ps.length = cs.length := by
  induction h with
  | nil => rfl
  | cons _ _ _ ih => simp [ih]
theorem PAll.keys {ps : List (Value × Value)} {cs : Tab} (h : PAll ps cs) : KAll (ps.map (·.1)) (cs.map (·.1)) := by
  induction h with
  | nil => exact .nil
  | cons a _ _ ih => exact .cons a ih
theorem PAll.get {ps : List (Value × Value)} {cs : Tab} (h : PAll ps cs) : ∀ {i : Nat} {p : Value × Value}, ps[i]? = some p → ∃ kc, cs[i]? = some kc ∧ keyIs kc.1 p.1 = true ∧ kc.2.is p.2 := by
  induction h with
  | nil => intro i v e; simp at e
  | cons a b _ ih =>
    intro i v e
    cases i with
    | zero => simp at e; subst e; exact ⟨_, rfl, a, b⟩
    | succ i => exact ih (by simpa using e)

/-- a list of pairs -/
def PairsAt (h : Heap) (l : Addr) (cs : Tab) : Prop :=
  ∃ items ps, h.PlainList l (items : List Value).toArray ∧ ps.length = items.length ∧ (∀ (j : Nat) (v : Value) (p : Value × Value), items[j]? = some v → ps[j]? = some p → ∃ T, v = .ref T ∧ h.IsTuple T #[p.1, p.2]) ∧ PAll ps cs
def KeysAt (h : Heap) (l : Addr) (ks : List Key) : Prop := ∃ items, h.PlainList l (items : List Value).toArray ∧ KAll items ks

theorem plain_kept {h h' : Heap} (k : SeqKept h h') {a : Addr} {xs : Array Value} (x : h.PlainList a xs) : h'.PlainList a xs := let ⟨n, e⟩ := x; ⟨n, k _ _ _ _ e rfl⟩
theorem tup_kept {h h' : Heap} (k : SeqKept h h') {a : Addr} {xs : Array Value} (x : h.IsTuple a xs) : h'.IsTuple a xs := by
  obtain ⟨o, ho, hc, n, hd⟩ := x
  exact ⟨o, k _ _ _ _ ho hd, hc, n, hd⟩
theorem PairsAt.kept {h h' : Heap} (k : SeqKept h h') {l : Addr} {cs : Tab} (x : PairsAt h l cs) : PairsAt h' l cs := by
  obtain ⟨items, ps, a, b, c, d⟩ := x
  refine ⟨items, ps, plain_kept k a, b, fun j v p hv hp => ?_, d⟩
  obtain ⟨T, e, ht⟩ := c j v p hv hp
  exact ⟨T, e, tup_kept k ht⟩
theorem KeysAt.kept {h h' : Heap} (k : SeqKept h h') {l : Addr} {ks : List Key} (x : KeysAt h l ks) : KeysAt h' l ks := by
  obtain ⟨items, a, b⟩ := x; exact ⟨items, plain_kept k a, b⟩
theorem SeqKept.of_keeps {h h' : Heap} (k : ∀ b o, h.get? b = some o → h'.get? b = some o) : SeqKept h h' := fun b o _ _ ho _ => k b o ho
theorem SeqKept.trans {a b c : Heap} (x : SeqKept a b) (y : SeqKept b c) : SeqKept a c := fun i o xs n ho hd => y i o xs n (x i o xs n ho hd) hd

theorem els_map {P : Nat → Value → Prop} {f : Nat → Value} : ∀ {is : List Nat} {vs : List Value}, Els P is vs → (∀ i v, P i v → v = f i) → vs = is.map f
  | _, _, .nil, _ => rfl
  | _, _, .cons a r, h => by rw [h _ _ a, els_map r h]; rfl

section
variable {prog : Program} {w : World} {A : Around} {E : Value → Shared → Prop} {s : Shared} {L f lp lq : Addr} {cd : Value} {m : Str → Option Value} {cs : Tab} {ks : List Key} {Q : Flow → Shared → Prop}

theorem filter_all (l : List Nat) : l.filter (fun _ => true) = l := by simp
theorem range_map_get {α β : Type} (l : List α) (f : α → β) (d : β) : (List.range l.length).map (fun i => ((l[i]?).map f).getD d) = l.map f := by
  apply List.ext_getElem
  · simp
  · intro i h1 h2
    have h3 : i < l.length := by simpa using h2
    simp [h3]

/-- the source of a comprehension over a list of pairs, its iterator made -/
theorem pairs_start {I l : Addr} {items : List Value} {ps : List (Value × Value)} {h : Heap} (hI : I = h.objs.size) (hl : h.IsList l items.toArray) (htup : ∀ (j : Nat) (v : Value) (p : Value × Value), items[j]? = some v → ps[j]? = some p → ∃ T, v = .ref T ∧ h.IsTuple T #[p.1, p.2]) :
    ((h.push { cls := .type "list_iterator", data := .fields #[.ref l, .int 0 0] }).IsListIter I l 0 ∧ (h.push { cls := .type "list_iterator", data := .fields #[.ref l, .int 0 0] }).IsList l items.toArray) ∧
      ∀ (j : Nat) (v : Value) (p : Value × Value), items[j]? = some v → ps[j]? = some p → ∃ T, v = .ref T ∧ T < (h.push { cls := .type "list_iterator", data := .fields #[.ref l, .int 0 0] }).objs.size ∧ (h.push { cls := .type "list_iterator", data := .fields #[.ref l, .int 0 0] }).IsTuple T #[p.1, p.2] := by
  subst hI
  refine ⟨⟨⟨_, Heap.get?_push_size _ rfl, rfl, rfl⟩, hl.push _⟩, fun j v p hv hp => ?_⟩
  obtain ⟨T, e, o, ho, r⟩ := htup j v p hv hp
  exact ⟨T, e, by rw [Heap.size_push]; exact Nat.lt_succ_of_lt (Heap.lt_size ho), o, Heap.get?_push_of_some _ ho, r⟩

set_option maxHeartbeats 1000000 in
/-- the counted pairs, statement 0: the keys known -/
theorem counted0 (hh : A.handled = none) (hn : s.heap.Ns L m) (hm : m "pairs" = some (.ref lp)) (hP : PairsAt s.heap lp cs) (hsz : cs.length ≤ 1000)
    {x : Option Value} (hc : s.heap.IsCell (L + 2) x)
    (h : ∀ h' tk D, KeysAt h' D (cs.map (·.1)) → h'.IsCell (L + 2) (some (.ref D)) → (∀ b o, b ≠ L + 2 → s.heap.get? b = some o → h'.get? b = some o) →
      wpAny (model prog w) A (execs ((fnBody 4).drop 1) (nEnv L f cd)) Q E { s with heap := h', toks := tk }) :
    wpAny (model prog w) A (execs (fnBody 4) (nEnv L f cd)) Q E s := by
  obtain ⟨items, ps, hl, hlen, htup, hall⟩ := id hP
  have hlen' := hall.length
  have hlt : lp < s.heap.objs.size := by obtain ⟨n, e⟩ := hl; exact Heap.lt_size e
  refine wpAny_execs_cons ?_
  refine wpAny_Assign_Name ?_
  refine comp_eval (cl := []) (by decide) (clos0 L f cd) (by decide) rfl (by decide) ?_
  refine wpAny_Name (wpAny_loadName_local rfl rfl hn hm ?_)
  refine wpAny_pyIter_list hl.isList ?_
  refine ⟨_, _, _, _, fun _ => true, fun j _ y => ∃ p, ps[j]? = some p ∧ y = p.1, ⟨draws_pairs (items := items) (ps := ps) (I := s.heap.objs.size) (l := lp) hh rfl rfl (by decide) rfl (by rw [Heap.size_push]; exact Nat.lt_succ_self _) (by rw [Heap.size_push]; exact Nat.lt_succ_of_lt hlt) (Nat.ne_of_lt hlt) hlen, ?_, fun i h h' y _ hy => hy, ?_, ?_, ?_⟩, ?_⟩
  · rw [sizeLine_eq]; omega
  · intro C i s₃ m₃ E' _ _ _ _
    exact wpAny_pure ⟨rfl, s₃.heap, s₃.toks, rfl, fun _ _ e => e⟩
  · intro C i s₃ m₃ E' hi _ hn₃ hbd _
    obtain ⟨p, hp, hx, _⟩ := hbd
    exact ldK hn₃ hx ⟨⟨p, hp, rfl⟩, s₃.heap, s₃.toks, rfl, fun _ _ e => e⟩
  · exact pairs_start rfl hl.isList htup
  · intro D h' tk ys hD hl' hels hk
    have hys : ys.toList = ps.map (·.1) := by
      rw [els_map (f := fun i => ((ps[i]?).map (·.1)).getD .none) hels (by rintro i v ⟨p, hp, rfl⟩; rw [hp]; rfl)]
      rw [filter_all, ← hlen]; exact range_map_get ps (·.1) _
    have up : ∀ b o, s.heap.get? b = some o → h'.get? b = some o := fun b o e => hk b o (by
      intro q
      rw [List.mem_singleton.mp q] at e
      exact absurd (Heap.lt_size e) (Nat.lt_irrefl _)) (Heap.get?_push_of_some _ e)
    have hK : KeysAt h' D (cs.map (·.1)) := ⟨ps.map (·.1), by rw [← hys]; exact hl', hall.keys⟩
    refine wpAny_storeName_cell (c := L + 2) rfl rfl (by rfl) (hc.keeps up) fun h'' hc'' hs'' => ?_
    have hDc : D ≠ L + 2 := by
      rintro rfl
      obtain ⟨o, ho, _⟩ := hc
      rw [Heap.get?_push_of_some _ ho] at hD; cases hD
    refine h h'' tk D ?_ hc'' fun b o hb e => (hs''.2 b hb).trans (up b o e)
    obtain ⟨it, ⟨n, a⟩, b⟩ := hK
    exact ⟨it, ⟨n, (hs''.2 D hDc).trans a⟩, b⟩
end
end Mine

namespace Mine
open PySem.SeqAt

def newAt (known ks : List Key) (i : Nat) : Bool := match ks[i]? with
  | some k => !hasK known k && decide (idxK ks k = i)
  | none => false
def newOf (known ks : List Key) : List Key := ((List.range ks.length).filter (newAt known ks)).filterMap fun i => ks[i]?

theorem kall_pick {items : List Value} {ks : List Key} (h : KAll items ks) {P : Nat → Value → Prop} (hP : ∀ i v, P i v → items[i]? = some v) : ∀ {is : List Nat} {vs : List Value}, Els P is vs → KAll vs (is.filterMap fun i => ks[i]?)
  | _, _, .nil => .nil
  | _, _, .cons (i := i) a r => by
    obtain ⟨k, hk, hv⟩ := h.get (hP _ _ a)
    rw [List.filterMap_cons, hk]
    exact .cons hv (kall_pick h hP r)

theorem hasK_get {ks : List Key} {i : Nat} {k : Key} (h : ks[i]? = some k) : hasK ks k = true := by
  unfold hasK
  rw [List.any_eq_true]
  exact ⟨k, List.mem_of_getElem? h, by simp⟩

section
variable {prog : Program} {w : World} {A : Around} {E : Value → Shared → Prop} {s : Shared} {L f lk lq : Addr} {cd : Value} {m : Str → Option Value} {cs : Tab} {known ks : List Key} {Q : Flow → Shared → Prop} {X : Fns}

/-- the names of a frame with cells -/
theorem ldBc {x : Str} {pos : Pos} {v : Value} {Q : Value → Shared → Prop} {M : Model} (W : Wd s.heap X) (hv : (x, v) ∈ bltNames) (h : Q v s)
    (hx : (nEnv L f cd).kindOf x = some .globalImplicit := by rfl) (hd : (x == ("__debug__" : Str)) = false := by decide) :
    wpAny M A (eval (.Name x pos) (nEnv L f cd)) Q E s := by
  obtain ⟨mg, hg, _, _, _, hm⟩ := W.glob
  obtain ⟨mb, hb, hbv⟩ := W.blt
  exact Calls.Name_function_global rfl hx (Calls.loadGlobal_builtin (env := nEnv L f cd) hg (hm _ hv) hb (hbv _ hv) h) hd

theorem two_new {h : Heap} {b : Addr} {o : Obj} (e : h.get? b = some o) : b ∉ [h.objs.size + 1, h.objs.size] := fun q => by
  have h1 := Heap.lt_size e
  rcases List.mem_cons.mp q with q | q
  · rw [q] at h1; exact absurd h1 (Nat.not_lt.mpr (Nat.le_succ _))
  · rw [List.mem_singleton.mp q] at h1; exact Nat.lt_irrefl _ h1

set_option maxHeartbeats 1000000 in
/-- the counted pairs, statement 1: the keys that are new -/
theorem counted1 (W : Wd s.heap X) (hh : A.handled = none) (hn : s.heap.Ns L m) (hc1 : s.heap.IsCell (L + 1) (some (.ref lq))) (hc2 : s.heap.IsCell (L + 2) (some (.ref lk))) (hK : KeysAt s.heap lk known) (hQ : KeysAt s.heap lq ks) (hsz : ks.length ≤ 1000)
    (h : ∀ h' tk D, KeysAt h' D (newOf known ks) → h'.Ns L (fun z => if z = "new" then some (.ref D) else m z) → (∀ b o, b ≠ L → s.heap.get? b = some o → h'.get? b = some o) →
      wpAny (model prog w) A (execs ((fnBody 4).drop 2) (nEnv L f cd)) Q E { s with heap := h', toks := tk }) :
    wpAny (model prog w) A (execs ((fnBody 4).drop 1) (nEnv L f cd)) Q E s := by
  obtain ⟨items, hl, hall⟩ := id hQ
  obtain ⟨kitems, hkl, hkall⟩ := id hK
  have hlen := hall.length
  have hlt : lq < s.heap.objs.size := by obtain ⟨n, e⟩ := hl; exact Heap.lt_size e
  refine wpAny_execs_cons ?_
  refine comp_assign (cl := [("part", L + 1), ("known", L + 2)]) (by decide) (by with_unfolding_all rfl) (clos1 L f cd) (by decide) rfl (by decide) rfl rfl ?_
  refine wpAny_Call_NameR ?_
  refine ldBc W (v := .type "enumerate") (by decide) ?_
  refine Pv.callWith_type1 ?_
  refine args_cons ?_
  refine wpAny_Name (wpAny_loadName_cell (c := L + 1) rfl rfl (by rfl) hc1 ?_)
  refine args_nil ?_
  refine call_enumerate_list hl.isList fun h₁ he hit hsz₁ hk₁ => ?_
  refine wpAny_pyIter_enum he ?_
  have hLt : L < s.heap.objs.size := hn.lt
  refine ⟨_, _, _, _, newAt known ks, fun j _ y => items[j]? = some y, m, ⟨draws_enum (items := items) (I := s.heap.objs.size + 1) (J := s.heap.objs.size) (l := lq) hh rfl rfl (by decide) rfl (by show _ < h₁.objs.size; rw [hsz₁]; exact Nat.lt_succ_self _) (by show _ < h₁.objs.size; rw [hsz₁]; exact Nat.lt_succ_of_lt (Nat.lt_succ_self _)) (by show _ < h₁.objs.size; rw [hsz₁]; exact Nat.lt_succ_of_lt (Nat.lt_succ_of_lt hlt)) (Nat.succ_ne_self _) (Nat.ne_of_lt (Nat.lt_succ_of_lt hlt)) (Nat.ne_of_lt hlt), ?_, fun i h h' y _ hy => hy, ?_, ?_, ?_⟩, ?_, hn.keeps hk₁, ?_⟩
  · rw [sizeLine_eq]; omega
  · intro C i s₃ m₃ E' hi hn₃ hbd hk₃
    obtain ⟨⟨t, hx⟩, hy⟩ := hbd
    have up : ∀ b o, s.heap.get? b = some o → s₃.heap.get? b = some o := fun b o e => hk₃ b o (two_new e) (hk₁ b o e)
    obtain ⟨k, hki, hkv⟩ := hall.get (i := i) (v := items[i]) (by simp [hi])
    have hy' : m₃ "thing" = some items[i] := by rw [hy]; simp [hi]
    have hkl₃ := plain_kept (SeqKept.of_keeps up) hkl
    have hl₃ := plain_kept (SeqKept.of_keeps up) hl
    have hp : newAt known ks i = (!hasK known k && decide (idxK ks k = i)) := by unfold newAt; rw [hki]
    show wpAny _ _ (isTrue _ _ _) _ _ _
    refine isTrue_and ?_
    refine wpAny_isTrue_Compare1 ?_
    refine ldK hn₃ hy' ?_
    refine ldKc (c := L + 2) (by rfl) (hc2.keeps up) ?_
    refine notIn_keys hkl₃.isList hkall hkv ?_
    refine wpAny_truthy_bool ?_
    cases hb : hasK known k with
    | true =>
      rw [hb] at hp
      exact ⟨by rw [hp]; rfl, s₃.heap, s₃.toks, rfl, fun _ _ e => e⟩
    | false =>
      rw [hb] at hp
      show wpAny _ _ (isTrue _ _ _) _ _ _
      refine isTrue_and ?_
      refine wpAny_isTrue_Compare1 ?_
      refine eval_index (l := lq) (v := items[i]) (fun Q' hq => ldKc (c := L + 1) (by rfl) (hc1.keeps up) hq) (fun Q' hq => ldK hn₃ hy' hq) hl₃ hall hkv (hasK_get hki) hsz ?_
      refine ldK (s := { s₃ with toks := s₃.toks + 1 }) hn₃ hx ?_
      refine wpAny_eq_int ?_
      refine wpAny_truthy_bool ?_
      have he2 : ((idxK ks k : Int) == (i : Int)) = decide (idxK ks k = i) := by
        by_cases q : idxK ks k = i
        · simp [q]
        · have : ¬ ((idxK ks k : Int) = (i : Int)) := by omega
          simp [q, this]
      rw [he2]
      cases hq : decide (idxK ks k = i) with
      | true =>
        rw [hq] at hp
        rw [if_pos rfl]
        exact isTrue_and_nil ⟨by rw [hp]; rfl, s₃.heap, s₃.toks + 1, rfl, fun _ _ e => e⟩
      | false =>
        rw [hq] at hp
        rw [if_neg (by decide)]
        exact ⟨by rw [hp]; rfl, s₃.heap, s₃.toks + 1, rfl, fun _ _ e => e⟩
  · intro C i s₃ m₃ E' hi hp hn₃ hbd _
    obtain ⟨_, hy⟩ := hbd
    exact ldK hn₃ (v := items[i]) (by rw [hy]; simp [hi]) ⟨by simp [hi], s₃.heap, s₃.toks, rfl, fun _ _ e => e⟩
  · exact ⟨⟨_, he⟩, hit, hl.isList.at fun o e => hk₁ lq o e⟩
  · obtain ⟨o, _, _, ho, _⟩ := hn
    exact two_new ho
  · intro D h' tk ys hD hl' hels hn' hk'
    rw [hlen] at hels
    have hkeys := kall_pick hall (P := fun j y => items[j]? = some y) (fun _ _ e => e) hels
    refine h h' tk D ⟨ys.toList, by simpa using hl', hkeys⟩ hn' fun b o hb e => hk' b o hb (two_new e) (hk₁ b o e)
end
end Mine

namespace Mine
open PySem.SeqAt

def Cnt.num : Cnt → Int
  | .int i => i
  | .bool b => if b = true then 1 else 0
  | .str _ => 0
def Cnt.plain : Cnt → Bool
  | .str _ => false
  | _ => true
def aftC (ks : List Key) (kc : Key × Cnt) : Key × Cnt := (kc.1, if hasK ks kc.1 then .int (kc.2.num + (cntK ks kc.1 : Nat)) else kc.2)
def aftOf (cs : Tab) (ks : List Key) : Tab := cs.map (aftC ks)
def cntNew (ks : List Key) (k : Key) : Key × Cnt := (k, .int (cntK ks k : Nat))
def countedOf (cs : Tab) (ks : List Key) : Tab := aftOf cs ks ++ (newOf (cs.map (·.1)) ks).map (cntNew ks)

/-- an item is the pair kc -/
def PairIs (h : Heap) (kc : Key × Cnt) (y : Value) : Prop := ∃ T p, y = .ref T ∧ h.IsTuple T #[(p : Value × Value).1, p.2] ∧ keyIs kc.1 p.1 = true ∧ kc.2.is p.2
theorem PairIs.mono {h h' : Heap} {kc : Key × Cnt} {y : Value} (k : TupKept h h') (x : PairIs h kc y) : PairIs h' kc y := by
  obtain ⟨T, p, e, ⟨o, ho, hc, n, hd⟩, r⟩ := x
  exact ⟨T, p, e, ⟨o, k _ _ ho hc ⟨_, n, hd⟩, hc, n, hd⟩, r⟩

theorem els_pairs {h : Heap} {g : Nat → Option (Key × Cnt)} : ∀ {is : List Nat} {vs : List Value}, Els (fun j y => ∃ kc, g j = some kc ∧ PairIs h kc y) is vs →
    ∃ ps : List (Value × Value), ps.length = vs.length ∧ (∀ (j : Nat) (v : Value) (p : Value × Value), vs[j]? = some v → ps[j]? = some p → ∃ T, v = .ref T ∧ h.IsTuple T #[p.1, p.2]) ∧ PAll ps (is.filterMap g)
  | _, _, .nil => ⟨[], rfl, fun j v p hv => by simp at hv, .nil⟩
  | _, _, .cons (i := i) a r => by
    obtain ⟨kc, hg, T, p, rfl, ht, hk, hc⟩ := a
    obtain ⟨ps, h1, h2, h3⟩ := els_pairs r
    refine ⟨p :: ps, by simp [h1], fun j v q hv hq => ?_, ?_⟩
    · cases j with
      | zero => simp at hv hq; subst hv hq; exact ⟨T, rfl, ht⟩
      | succ j => exact h2 j v q (by simpa using hv) (by simpa using hq)
    · rw [List.filterMap_cons, hg]
      exact .cons hk hc h3

theorem range_filterMap_take {α β : Type} (l : List α) (f : α → β) : ∀ n, n ≤ l.length → (List.range n).filterMap (fun i => (l[i]?).map f) = (l.take n).map f
  | 0, _ => by simp
  | n + 1, hn => by
    have hn' : n < l.length := hn
    rw [List.range_succ, List.filterMap_append, range_filterMap_take l f n (Nat.le_of_lt hn'), List.take_add_one, List.map_append]
    simp [hn']
theorem range_filterMap {α β : Type} (l : List α) (f : α → β) : (List.range l.length).filterMap (fun i => (l[i]?).map f) = l.map f := by
  rw [range_filterMap_take l f l.length (Nat.le_refl _), List.take_length]

section
variable {prog : Program} {w : World} {A : Around} {E : Value → Shared → Prop} {s : Shared} {L f lp lq : Addr} {cd : Value} {m : Str → Option Value} {cs : Tab} {ks : List Key} {Q : Flow → Shared → Prop} {X : Fns}

theorem one_new {h : Heap} {b : Addr} {o : Obj} (e : h.get? b = some o) : b ∉ [h.objs.size] := fun q => by
  have h1 := Heap.lt_size e
  rw [List.mem_singleton.mp q] at h1; exact Nat.lt_irrefl _ h1

theorem tuple_new {h : Heap} {a b : Value} : (h.push { cls := .type "tuple", data := .seq [a, b].toArray }).IsTuple h.objs.size #[a, b] := ⟨_, Heap.get?_push_size _ rfl, rfl, 0, rfl⟩

set_option maxHeartbeats 1000000 in
/-- the counted pairs, statement 2: the old keys' counts -/
theorem counted2 (hh : A.handled = none) (hn : s.heap.Ns L m) (hm : m "pairs" = some (.ref lp)) (hc1 : s.heap.IsCell (L + 1) (some (.ref lq))) (hP : PairsAt s.heap lp cs) (hQ : KeysAt s.heap lq ks) (hsz : cs.length ≤ 1000)
    (hpl : ∀ kc ∈ cs, hasK ks kc.1 = true → kc.2.plain = true)
    (h : ∀ h' tk D, PairsAt h' D (aftOf cs ks) → h'.Ns L (fun z => if z = "after" then some (.ref D) else m z) → (∀ b o, b ≠ L → s.heap.get? b = some o → h'.get? b = some o) →
      wpAny (model prog w) A (execs ((fnBody 4).drop 3) (nEnv L f cd)) Q E { s with heap := h', toks := tk }) :
    wpAny (model prog w) A (execs ((fnBody 4).drop 2) (nEnv L f cd)) Q E s := by
  obtain ⟨items, ps, hl, hlen, htup, hall⟩ := id hP
  obtain ⟨kitems, hkl, hkall⟩ := id hQ
  have hlen' := hall.length
  have hlt : lp < s.heap.objs.size := by obtain ⟨n, e⟩ := hl; exact Heap.lt_size e
  refine wpAny_execs_cons ?_
  refine comp_assign (cl := [("part", L + 1)]) (by decide) (by with_unfolding_all rfl) (clos2 L f cd) (by decide) rfl (by decide) rfl rfl ?_
  refine wpAny_Name (wpAny_loadName_local rfl rfl hn hm ?_)
  refine wpAny_pyIter_list hl.isList ?_
  refine ⟨_, _, _, _, fun _ => true, fun j h y => ∃ kc, (cs[j]?).map (aftC ks) = some kc ∧ PairIs h kc y, m, ⟨draws_pairs (items := items) (ps := ps) (I := s.heap.objs.size) (l := lp) hh rfl rfl (by decide) rfl (by rw [Heap.size_push]; exact Nat.lt_succ_self _) (by rw [Heap.size_push]; exact Nat.lt_succ_of_lt hlt) (Nat.ne_of_lt hlt) hlen, ?_, fun i h h' y k hy => let ⟨kc, e, x⟩ := hy; ⟨kc, e, x.mono k⟩, ?_, ?_, pairs_start rfl hl.isList htup⟩, ?_, hn.push _, ?_⟩
  · rw [sizeLine_eq]; omega
  · intro C i s₃ m₃ E' _ _ _ _
    exact wpAny_pure ⟨rfl, s₃.heap, s₃.toks, rfl, fun _ _ e => e⟩
  · intro C i s₃ m₃ E' hi _ hn₃ hbd hk₃
    obtain ⟨p, hp, hx, hy⟩ := hbd
    obtain ⟨kc, hkc, hk1, hk2⟩ := hall.get hp
    have up : ∀ b o, s.heap.get? b = some o → s₃.heap.get? b = some o := fun b o e => hk₃ b o (one_new e) (Heap.get?_push_of_some _ e)
    have hkl₃ := plain_kept (SeqKept.of_keeps up) hkl
    have fin : ∀ (v : Value) tk, (aftC ks kc).2.is v → wpAny (model prog w) A (newTuple [p.1, v]) (fun y s₄ => (∃ kc, (cs[i]?).map (aftC ks) = some kc ∧ PairIs s₄.heap kc y) ∧ Keeps s₃ s₄) E' { s₃ with toks := tk } := fun v tk hv =>
      wpAny_newTuple (s := { s₃ with toks := tk }) ⟨⟨aftC ks kc, by rw [hkc]; rfl, _, (p.1, v), rfl, tuple_new, hk1, hv⟩, _, _, rfl, fun b o e => Heap.get?_push_of_some _ e⟩ (by rw [sizeLine_eq]; exact Nat.le_of_ble_eq_true rfl)
    refine Tuple_ ?_
    refine args_cons ?_
    refine ldK hn₃ hx ?_
    refine args_cons ?_
    refine wpAny_IfExp ?_
    refine wpAny_isTrue_Compare1 ?_
    refine ldK hn₃ hx ?_
    refine ldKc (c := L + 1) (by rfl) (hc1.keeps up) ?_
    refine in_keys hkl₃.isList hkall hk1 ?_
    refine wpAny_truthy_bool ?_
    have e2 : (aftC ks kc).2 = if hasK ks kc.1 then .int (kc.2.num + (cntK ks kc.1 : Nat)) else kc.2 := rfl
    cases hb : hasK ks kc.1 with
    | false =>
      rw [if_neg (by decide)]
      refine ldK hn₃ hy ?_
      refine args_nil ?_
      exact fin _ _ (by rw [e2, hb]; exact hk2)
    | true =>
      rw [if_pos rfl]
      refine wpAny_BinOp ?_
      refine ldK hn₃ hy ?_
      refine eval_count (l := lq) (v := p.1) (fun Q' hq => ldKc (c := L + 1) (by rfl) (hc1.keeps up) hq) (fun Q' hq => ldK hn₃ hx hq) hkl₃ hkall hk1 ?_
      have hplain := hpl kc (List.mem_of_getElem? hkc) hb
      obtain ⟨k, c⟩ := kc
      obtain ⟨pa, pb⟩ := p
      cases c with
      | int n =>
        obtain ⟨t, rfl⟩ : ∃ t, pb = .int n t := hk2
        refine wpAny_add_int ?_
        refine args_nil ?_
        exact fin _ _ (by rw [e2, hb]; exact ⟨_, rfl⟩)
      | bool b =>
        obtain rfl : pb = .bool b := hk2
        refine IntBool.add_bool_int ?_
        refine args_nil ?_
        exact fin _ _ (by rw [e2, hb]; exact ⟨_, rfl⟩)
      | str x => cases hplain
  · obtain ⟨o, _, _, ho, _⟩ := hn
    exact one_new ho
  · intro D h' tk ys hD hl' hels hn' hk'
    rw [filter_all, ← hlen, hlen'] at hels
    obtain ⟨ps', h1, h2, h3⟩ := els_pairs (g := fun j => (cs[j]?).map (aftC ks)) hels
    rw [range_filterMap] at h3
    exact h h' tk D ⟨ys.toList, ps', by simpa using hl', h1, h2, h3⟩ hn' fun b o hb e => hk' b o hb (one_new e) (Heap.get?_push_of_some _ e)
end
end Mine

namespace Mine
open PySem.SeqAt

section
variable {prog : Program} {w : World} {A : Around} {E : Value → Shared → Prop} {s : Shared} {L f la ln lq : Addr} {cd : Value} {m : Str → Option Value} {cs : Tab} {ks nk : List Key} {Q : Flow → Shared → Prop} {X : Fns}

theorem add_plain {l b : Addr} {vs ws : List Value} {Q : Value → Shared → Prop} (hl : s.heap.PlainList l vs.toArray) (hb : s.heap.PlainList b ws.toArray) (hsz : vs.length + ws.length ≤ 10000)
    (h : (s.heap.push { cls := .type "list", data := .seq (vs ++ ws).toArray }).PlainList s.heap.objs.size (vs ++ ws).toArray → Q (.ref s.heap.objs.size) { s with heap := s.heap.push { cls := .type "list", data := .seq (vs ++ ws).toArray } }) :
    wpAny (model prog w) A (binaryOp .Add (.ref l) (.ref b)) Q E s := by
  obtain ⟨n, e⟩ := hl
  obtain ⟨n2, e2⟩ := hb
  refine P.add_list (n := n) (n2 := n2) e e2 ?_ (by simp only [List.size_toArray]; rw [sizeLine_eq]; omega)
  rw [List.append_toArray]
  exact h ⟨0, Heap.get?_push_size _ rfl⟩

theorem PAll.append {ps qs : List (Value × Value)} {cs ds : Tab} (h : PAll ps cs) (k : PAll qs ds) : PAll (ps ++ qs) (cs ++ ds) := by
  induction h with
  | nil => exact k
  | cons a b _ ih => exact .cons a b ih

theorem pairs_append {h : Heap} {vs ws : List Value} {ps qs : List (Value × Value)} (h1 : ps.length = vs.length)
    (h2 : ∀ (j : Nat) (v : Value) (p : Value × Value), vs[j]? = some v → ps[j]? = some p → ∃ T, v = .ref T ∧ h.IsTuple T #[p.1, p.2])
    (h3 : ∀ (j : Nat) (v : Value) (p : Value × Value), ws[j]? = some v → qs[j]? = some p → ∃ T, v = .ref T ∧ h.IsTuple T #[p.1, p.2]) :
    ∀ (j : Nat) (v : Value) (p : Value × Value), (vs ++ ws)[j]? = some v → (ps ++ qs)[j]? = some p → ∃ T, v = .ref T ∧ h.IsTuple T #[p.1, p.2] := by
  intro j v p hv hp
  by_cases hj : j < vs.length
  · rw [List.getElem?_append_left hj] at hv
    rw [List.getElem?_append_left (by omega)] at hp
    exact h2 j v p hv hp
  · rw [List.getElem?_append_right (by omega)] at hv
    rw [List.getElem?_append_right (by omega), h1] at hp
    exact h3 _ v p hv hp

set_option maxHeartbeats 1000000 in
/-- the counted pairs, statement 3: old and new -/
theorem counted3 (hh : A.handled = none) (hn : s.heap.Ns L m) (hm1 : m "after" = some (.ref la)) (hm2 : m "new" = some (.ref ln)) (hc1 : s.heap.IsCell (L + 1) (some (.ref lq))) (hP : PairsAt s.heap la cs) (hN : KeysAt s.heap ln nk) (hQ : KeysAt s.heap lq ks) (hsz : cs.length ≤ 1000) (hsz2 : nk.length ≤ 1000)
    (h : ∀ h' tk D, PairsAt h' D (cs ++ nk.map (cntNew ks)) → (∀ b o, s.heap.get? b = some o → h'.get? b = some o) → Q (.ret (.ref D)) { s with heap := h', toks := tk }) :
    wpAny (model prog w) A (execs ((fnBody 4).drop 3) (nEnv L f cd)) Q E s := by
  obtain ⟨items, hl, hall⟩ := id hN
  obtain ⟨kitems, hkl, hkall⟩ := id hQ
  have hlen := hall.length
  have hlt : ln < s.heap.objs.size := by obtain ⟨n, e⟩ := hl; exact Heap.lt_size e
  refine wpAny_execs_cons ?_
  refine wpAny_Return_some ?_
  refine wpAny_BinOp ?_
  refine wpAny_Name (wpAny_loadName_local rfl rfl hn hm1 ?_)
  refine comp_eval (cl := [("part", L + 1)]) (by decide) (clos3 L f cd) (by decide) rfl (by decide) ?_
  refine wpAny_Name (wpAny_loadName_local rfl rfl hn hm2 ?_)
  refine wpAny_pyIter_list hl.isList ?_
  refine ⟨_, _, _, _, fun _ => true, fun j h y => ∃ kc, (nk[j]?).map (cntNew ks) = some kc ∧ PairIs h kc y, ⟨draws_list (items := items) (I := s.heap.objs.size) (l := ln) hh rfl rfl (by rw [Heap.size_push]; exact Nat.lt_succ_self _) (by rw [Heap.size_push]; exact Nat.lt_succ_of_lt hlt) (Nat.ne_of_lt hlt), ?_, fun i h h' y k hy => let ⟨kc, e, x⟩ := hy; ⟨kc, e, x.mono k⟩, ?_, ?_, ?_⟩, ?_⟩
  · rw [sizeLine_eq]; omega
  · intro C i s₃ m₃ E' _ _ _ _
    exact wpAny_pure ⟨rfl, s₃.heap, s₃.toks, rfl, fun _ _ e => e⟩
  · intro C i s₃ m₃ E' hi _ hn₃ hbd hk₃
    obtain ⟨k, hk1, hk2⟩ := hall.get (i := i) (v := items[i]) (by simp [hi])
    have hx : m₃ "thing" = some items[i] := by rw [hbd]; simp [hi]
    have up : ∀ b o, s.heap.get? b = some o → s₃.heap.get? b = some o := fun b o e => hk₃ b o (one_new e) (Heap.get?_push_of_some _ e)
    have hkl₃ := plain_kept (SeqKept.of_keeps up) hkl
    refine Tuple_ ?_
    refine args_cons ?_
    refine ldK hn₃ hx ?_
    refine args_cons ?_
    refine eval_count (l := lq) (v := items[i]) (fun Q' hq => ldKc (c := L + 1) (by rfl) (hc1.keeps up) hq) (fun Q' hq => ldK hn₃ hx hq) hkl₃ hkall hk2 ?_
    refine args_nil ?_
    exact wpAny_newTuple (s := { s₃ with toks := s₃.toks + 1 }) ⟨⟨cntNew ks k, by rw [hk1]; rfl, _, (items[i], _), rfl, tuple_new, hk2, ⟨_, rfl⟩⟩, _, _, rfl, fun b o e => Heap.get?_push_of_some _ e⟩ (by rw [sizeLine_eq]; exact Nat.le_of_ble_eq_true rfl)
  · exact ⟨⟨_, Heap.get?_push_size _ rfl, rfl, rfl⟩, hl.isList.push _⟩
  · intro D h' tk ys hD hl' hels hk'
    rw [filter_all, hlen] at hels
    obtain ⟨qs, h1, h2, h3⟩ := els_pairs (g := fun j => (nk[j]?).map (cntNew ks)) hels
    rw [range_filterMap] at h3
    have up : ∀ b o, s.heap.get? b = some o → h'.get? b = some o := fun b o e => hk' b o (one_new e) (Heap.get?_push_of_some _ e)
    obtain ⟨aitems, ps, ha, g1, g2, g3⟩ := hP.kept (SeqKept.of_keeps up)
    have e1 := g3.length
    have e2 := h3.length
    rw [List.length_map] at e2
    refine add_plain (s := { s with heap := h', toks := tk }) (vs := aitems) (ws := ys.toList) ha (by simpa using hl') (by omega) fun hnew => ?_
    have up2 : ∀ b o, h'.get? b = some o → (h'.push { cls := .type "list", data := .seq (aitems ++ ys.toList).toArray }).get? b = some o := fun b o e => Heap.get?_push_of_some _ e
    refine h _ _ _ ⟨aitems ++ ys.toList, ps ++ qs, hnew, by simp [g1, h1], ?_, g3.append h3⟩ fun b o e => up2 b o (up b o e)
    refine pairs_append g1 (fun j v p hv hp => ?_) (fun j v p hv hp => ?_)
    · obtain ⟨T, e, ht⟩ := g2 j v p hv hp
      exact ⟨T, e, tup_kept (SeqKept.of_keeps up2) ht⟩
    · obtain ⟨T, e, ht⟩ := h2 j v p hv hp
      exact ⟨T, e, tup_kept (SeqKept.of_keeps up2) ht⟩
end
end Mine

namespace Mine
open PySem.SeqAt

section
variable {prog : Program} {w : World} {A : Around} {E : Value → Shared → Prop} {s : Shared} {lp lq : Addr} {cs : Tab} {ks : List Key} {Q : Value → Shared → Prop} {X : Fns}

theorem newOf_length (known ks : List Key) : (newOf known ks).length ≤ ks.length := by
  unfold newOf
  refine Nat.le_trans (List.length_filterMap_le _ _) (Nat.le_trans (List.length_filter_le _ _) ?_)
  rw [List.length_range]; exact Nat.le_refl _
theorem kindsN (n : Addr) : ∀ x ∈ ([("pairs", .ref lp), ("part", .ref lq)] : List (Str × Value)), (fnScope 4).names.lookup x.1 = some .local ∨ ((fnScope 4).names.lookup x.1 = some .cell ∧ ((cellsFrom n (fnScope 4).names []).lookup x.1).isSome = true) := by
  intro x hx
  rcases List.mem_cons.mp hx with rfl | hx
  · exact .inl (by with_unfolding_all rfl)
  · rw [List.mem_singleton.mp hx]
    exact .inr ⟨by with_unfolding_all rfl, by with_unfolding_all rfl⟩

set_option maxHeartbeats 1000000 in
theorem counted_call (W : Wd s.heap X) (hh : A.handled = none) (hroom : A.depth < recursionLimit) (hP : PairsAt s.heap lp cs) (hQ : KeysAt s.heap lq ks) (hsz : cs.length ≤ 1000) (hsz2 : ks.length ≤ 1000)
    (hpl : ∀ kc ∈ cs, hasK ks kc.1 = true → kc.2.plain = true)
    (h : ∀ h' tk D, PairsAt h' D (countedOf cs ks) → (∀ b o, s.heap.get? b = some o → h'.get? b = some o) → Q (.ref D) { s with heap := h', toks := tk }) :
    wpAny (model prog w) A (call (.ref X.n) [.ref lp, .ref lq]) Q E s := by
  obtain ⟨o, doc, pm, ct, an, ho, hd⟩ := W.fn.there
  refine wpAny_call ?_
  refine codeAny_call_function hroom ho hd rfl rfl rfl W.fn.code ((BindsTo.of_eq (binds := [("pairs", .ref lp), ("part", .ref lq)]) (by with_unfolding_all rfl)) _ _ _ _ ?_)
  refine wpAny_newFunctionEnv_cells rfl (kindsN _) fun env' he s' x => ?_
  subst he
  refine ⟨W.lim.keeps x.toInCall.keep, codeAny_func ?_⟩
  obtain ⟨h₁, tk, rfl, _⟩ := x.done
  have hk₁ := x.toInCall.keep
  have hns := x.toInCall.ns
  have hc1 := x.cell "part" (s.heap.objs.size + 1) (by with_unfolding_all rfl)
  have hc2 := x.cell "known" (s.heap.objs.size + 2) (by with_unfolding_all rfl)
  have hc1' : h₁.IsCell (s.heap.objs.size + 1) (some (.ref lq)) := hc1
  have neL : ∀ b o, s.heap.get? b = some o → b ≠ s.heap.objs.size := fun b o e => Nat.ne_of_lt (Heap.lt_size e)
  have neC : ∀ b o, s.heap.get? b = some o → b ≠ s.heap.objs.size + 2 := fun b o e => Nat.ne_of_lt (Nat.lt_succ_of_lt (Nat.lt_succ_of_lt (Heap.lt_size e)))
  refine counted0 (s := { s with heap := h₁, toks := tk }) (L := s.heap.objs.size) (lp := lp) (cs := cs) hh hns (by with_unfolding_all rfl) (hP.kept (SeqKept.of_keeps hk₁)) hsz hc2 fun h₂ tk₂ D₂ hK₂ hc₂ hk₂ => ?_
  have up₂ : ∀ b o, s.heap.get? b = some o → h₂.get? b = some o := fun b o e => hk₂ b o (neC b o e) (hk₁ b o e)
  have hns₂ := hns.at' (h' := h₂) fun o e => hk₂ _ o (Nat.ne_of_lt (Nat.lt_succ_of_lt (Nat.lt_succ_self _))) e
  have hc1₂ : h₂.IsCell (s.heap.objs.size + 1) (some (.ref lq)) := let ⟨o, e, r⟩ := hc1'; ⟨o, hk₂ _ o (Nat.ne_of_lt (Nat.lt_succ_self _)) e, r⟩
  refine counted1 (s := { s with heap := h₂, toks := tk₂ }) (L := s.heap.objs.size) (W.keeps up₂) hh hns₂ hc1₂ hc₂ hK₂ (hQ.kept (SeqKept.of_keeps up₂)) hsz2 fun h₃ tk₃ D₃ hK₃ hns₃ hk₃ => ?_
  have up₃ : ∀ b o, s.heap.get? b = some o → h₃.get? b = some o := fun b o e => hk₃ b o (neL b o e) (up₂ b o e)
  have hc1₃ : h₃.IsCell (s.heap.objs.size + 1) (some (.ref lq)) := let ⟨o, e, r⟩ := hc1₂; ⟨o, hk₃ _ o (Nat.ne_of_gt (Nat.lt_succ_self _)) e, r⟩
  refine counted2 (s := { s with heap := h₃, toks := tk₃ }) (L := s.heap.objs.size) (lp := lp) (cs := cs) hh hns₃ (by with_unfolding_all rfl) hc1₃ (hP.kept (SeqKept.of_keeps up₃)) (hQ.kept (SeqKept.of_keeps up₃)) hsz hpl fun h₄ tk₄ D₄ hP₄ hns₄ hk₄ => ?_
  have up₄ : ∀ b o, s.heap.get? b = some o → h₄.get? b = some o := fun b o e => hk₄ b o (neL b o e) (up₃ b o e)
  have hc1₄ : h₄.IsCell (s.heap.objs.size + 1) (some (.ref lq)) := let ⟨o, e, r⟩ := hc1₃; ⟨o, hk₄ _ o (Nat.ne_of_gt (Nat.lt_succ_self _)) e, r⟩
  have hK₄ : KeysAt h₄ D₃ (newOf (cs.map (·.1)) ks) := by
    obtain ⟨it, ⟨n, a⟩, b⟩ := hK₃
    exact ⟨it, ⟨n, hk₄ D₃ _ (ns_not_seq hns₃ a rfl) a⟩, b⟩
  refine counted3 (s := { s with heap := h₄, toks := tk₄ }) (L := s.heap.objs.size) hh hns₄ (by rfl) (by with_unfolding_all rfl) hc1₄ hP₄ hK₄ (hQ.kept (SeqKept.of_keeps up₄)) ?_ ?_ fun h₅ tk₅ D₅ hP₅ hk₅ => ?_
  · unfold aftOf; rw [List.length_map]; exact hsz
  · exact Nat.le_trans (newOf_length _ _) hsz2
  · exact h h₅ tk₅ D₅ hP₅ fun b o e => hk₅ b o (up₄ b o e)
end
end Mine

namespace Mine
open PySem.SeqAt

abbrev lEnv (L f : Addr) (cd : Value) : Env := envOf "law" (fnScope 5) L f cd

def fullK : Key := .inr "full"
def thsOf (x : Int) : List Th :=
  [.key (.inl ((x.fdiv 8).fmod 4)), .key (.inl (x.fdiv 8)), .key (.inr (PySem.Txt.item "abc" ((x.fdiv 8).fmod 3))), .key (.inl ((x.fdiv 8).fmod 4)), .key (.inl (x.fdiv 8)), .key (.inr "b"), .key fullK, .box]
def thOf (x : Int) : Th := ((thsOf x)[(x.fmod 8).toNat]?).getD .box

theorem ThAll.snoc {h : Heap} {vs : List Value} {ts : List Th} (x : ThAll h vs ts) {v : Value} {t : Th} (y : ThAt h v t) : ThAll h (vs ++ [v]) (ts ++ [t]) := by
  induction x with
  | nil => exact .cons y .nil
  | cons a _ ih => exact .cons a ih

section
variable {prog : Program} {w : World} {A : Around} {E : Value → Shared → Prop} {s : Shared} {env : Env} {l : Addr} {o e : Expr} {apos pos : Pos}
theorem eval_append {Q : Value → Shared → Prop} {items₀ : Array Value} (ho : ∀ Q' : Value → Shared → Prop, Q' (.ref l) s → wpAny (model prog w) A (eval o env) Q' E s) (hl : s.heap.PlainList l items₀)
    (he : wpAny (model prog w) A (eval e env) (fun v s₁ => ∃ items, s₁.heap.PlainList l items ∧ items.size ≤ sizeLine ∧ ∀ h', h'.PlainList l (items.push v) → Heap.SameBut l s₁.heap h' → Q .none { s₁ with heap := h' }) E s)
    (hbase : attributeBase o "append" env (eval o env) = eval o env := by rfl)
    (htrees : backTo pos (starEach [e] env) = [(false, eval e env)] := by rfl) (hline : (apos.endLine == pos.line) = true := by rfl) :
    wpAny (model prog w) A (eval (.Call (.Attribute o "append" apos) [e] [] pos) env) Q E s := by
  obtain ⟨n, hn⟩ := hl
  refine wpAny_Call_method (T := "list") (id := "list.append") hbase (by rw [htrees]; rfl) hline F.plainAttrs_list F.slot_list_append F.type_list_append (ho _ ⟨⟨_, hn, rfl⟩, fun a q => by cases q; exact ⟨_, hn, rfl⟩, ?_⟩)
  rw [htrees]
  refine Calls.callWith_builtin rfl (Calls.evalArgs_plain (Calls.spliced_cons (wpAny_mono he (fun v s₁ h₁ => Calls.spliced_nil ?_) fun _ _ x => x)))
  obtain ⟨items, hp, hsz, hq⟩ := h₁
  exact wpAny_list_append_plain hp hq hsz
end

def rowLoopBody : List Stmt := match ((fnBody 5)[1]? : Option Stmt) with
  | some (Stmt.For _ _ b _ _) => b
  | _ => []

theorem fmod_range (a : Int) {n : Int} (h : 0 < n) : 0 ≤ a.fmod n ∧ a.fmod n < n := by
  rw [Int.fmod_eq_emod_of_nonneg _ (Int.le_of_lt h)]
  exact ⟨Int.emod_nonneg _ (by omega), Int.emod_lt_of_pos _ h⟩

set_option maxHeartbeats 1000000 in
theorem row_turn {prog : Program} {w : World} {A : Around} {E : Value → Shared → Prop} {s : Shared} {Q : Flow → Shared → Prop} {L f R : Addr} {cd : Value} {m : Str → Option Value} {x : Int} {u : Tok} {items : List Value}
    (hn : s.heap.Ns L m) (hm1 : m "x" = some (.int x u)) (hm2 : m "row" = some (.ref R)) (hR : s.heap.PlainList R items.toArray) (hsz : items.length ≤ 1000)
    (h : ∀ h' tk v m', h'.Ns L m' → m' "row" = some (.ref R) → m' "script" = m "script" → h'.PlainList R (items ++ [v]).toArray → ThAt (hideAll h' [R]) v (thOf x) → (∀ b o, b ≠ L → b ≠ R → s.heap.get? b = some o → h'.get? b = some o) → Q .next { s with heap := h', toks := tk }) :
    wpAny (model prog w) A (execs rowLoopBody (lEnv L f cd)) Q E s := by
  refine wpAny_execs_cons ?_
  refine wpAny_Assign_Name ?_
  refine wpAny_BinOp ?_
  refine ldL hn hm1 ?_
  refine wpAny_Constant_int ?_
  refine AutoIntOps.floordiv_1 (by decide) (by rw [PyProof.noPylong_small (by decide)]; decide) ?_
  refine stL (s := { s with toks := _ }) hn fun h₁ hn₁ hs₁ => ?_
  have k₁ : ∀ b o, b ≠ L → s.heap.get? b = some o → h₁.get? b = some o := fun b o hb e => (hs₁.2 b hb).trans e
  have neRL : R ≠ L := by obtain ⟨n, e⟩ := hR; exact ns_not_seq hn e rfl
  have hR₁ : h₁.PlainList R items.toArray := by obtain ⟨n, e⟩ := hR; exact ⟨n, k₁ R _ neRL e⟩
  have q1 : (fun y => if y = "eighth" then some (Value.int (x.fdiv 8) (s.toks + 1)) else m y) "eighth" = some (Value.int (x.fdiv 8) (s.toks + 1)) := rfl
  have q2 : (fun y => if y = "eighth" then some (Value.int (x.fdiv 8) (s.toks + 1)) else m y) "x" = some (Value.int x u) := hm1
  have q3 : (fun y => if y = "eighth" then some (Value.int (x.fdiv 8) (s.toks + 1)) else m y) "row" = some (Value.ref R) := hm2
  refine wpAny_execs_cons ?_
  refine wpAny_Expr_any ?_
  refine eval_append (l := R) (fun Q' hq => ldL hn₁ q3 hq) hR₁ ?_
  refine Subscript_ ?_
  refine List_ ?_
  refine args_cons ?_
  refine wpAny_BinOp ?_
  refine ldL hn₁ q1 ?_
  refine wpAny_Constant_int ?_
  refine AutoIntOps.mod_1 (by decide) ?_
  refine args_cons ?_
  refine ldL (s := { s with heap := h₁, toks := _ }) hn₁ q1 ?_
  refine args_cons ?_
  refine Subscript_ ?_
  refine wpAny_Constant_str ?_
  refine wpAny_BinOp ?_
  refine ldL (s := { s with heap := h₁, toks := _ }) hn₁ q1 ?_
  refine wpAny_Constant_int ?_
  refine AutoIntOps.mod_1 (by decide) ?_
  have r3 := fmod_range (x.fdiv 8) (n := 3) (by decide)
  refine item_str (fitsSsize_of (N := 9223372036854775808) (by omega) (by omega) (Int.le_refl _)) (Int.le_trans (by decide) r3.1) r3.2 fun _ => ?_
  refine args_cons ?_
  refine wpAny_BinOp ?_
  refine ldL (s := { s with heap := h₁, toks := _ }) hn₁ q1 ?_
  refine wpAny_Constant_int ?_
  refine AutoIntOps.mod_1 (by decide) ?_
  refine args_cons ?_
  refine ldL (s := { s with heap := h₁, toks := _ }) hn₁ q1 ?_
  refine args_cons ?_
  refine wpAny_Constant_str ?_
  refine args_cons ?_
  refine wpAny_Constant_str ?_
  refine args_cons ?_
  refine List_ ?_
  refine args_cons ?_
  refine ldL (s := { s with heap := h₁, toks := _ }) hn₁ q2 ?_
  refine args_nil ?_
  refine wpAny_newList ?_
  refine args_nil ?_
  refine wpAny_newList ?_
  generalize hV : ([_, _, _, _, _, _, _, _] : List Value) = V
  generalize hH2 : h₁.push { cls := .type "list", data := .seq [Value.int x u].toArray } = h₂
  have hV' : ∀ H : Heap, H.IsList h₁.objs.size #[.int x u] → ThAll H V (thsOf x) := by
    intro H hb
    rw [← hV]
    exact .cons (.key (by simp [keyIs, Value.isInt])) (.cons (.key (by simp [keyIs, Value.isInt])) (.cons (.key (by simp [keyIs, Value.isStrOf])) (.cons (.key (by simp [keyIs, Value.isInt])) (.cons (.key (by simp [keyIs, Value.isInt]))
      (.cons (.key (by simp [keyIs, Value.isStrOf])) (.cons (.key (by simp [keyIs, fullK, Value.isStrOf])) (.cons (.box hb) .nil)))))))
  clear hV
  have hb₃ : (h₂.push { cls := .type "list", data := .seq V.toArray }).get? h₁.objs.size = some { cls := .type "list", data := .seq [Value.int x u].toArray } := Heap.get?_push_of_some _ (hH2 ▸ Heap.get?_push_size _ rfl)
  have up₂ : ∀ b o, h₁.get? b = some o → (h₂.push { cls := .type "list", data := .seq V.toArray }).get? b = some o := fun b o e => Heap.get?_push_of_some _ (hH2 ▸ Heap.get?_push_of_some _ e)
  refine wpAny_BinOp ?_
  refine ldL (hn₁.keeps up₂) q2 ?_
  refine wpAny_Constant_int ?_
  refine AutoIntOps.mod_1 (by decide) ?_
  have r8 := fmod_range x (n := 8) (by decide)
  have hlen : V.length = 8 := (hV' _ ⟨_, hb₃, rfl, 0, rfl⟩).length
  have hlt : (x.fmod 8).toNat < V.length := by omega
  refine kba_turn (value' := PySem.Expr.Name (PySem.Str.ofString "_") ⟨0, 0, 0, 0⟩) (fun _ => rfl) ?_
  refine item_listL (l := V) (x := V[(x.fmod 8).toNat]) ⟨_, Heap.get?_push_size _ rfl, rfl, 0, rfl⟩ r8.1 (by omega) (by simp [hlt]) ?_
  refine ⟨items.toArray, by obtain ⟨n, e⟩ := hR₁; exact ⟨n, up₂ _ _ e⟩, by rw [sizeLine_eq, List.size_toArray]; omega, fun h₄ hR₄ hs₄ => ?_⟩
  have hb₄ : ∀ b o, b ≠ R → h₁.get? b = some o → h₄.get? b = some o := fun b o hb e => (hs₄.2 b hb).trans (up₂ b o e)
  refine wpAny_execs_nil ?_
  refine h h₄ _ V[(x.fmod 8).toNat] _ (hn₁.at' fun o e => hb₄ L o (Ne.symm neRL) e) hm2 rfl (by simpa using hR₄) ?_ fun b o h1 h2 e => hb₄ b o h2 (k₁ b o h1 e)
  have neR : h₁.objs.size ≠ R := by obtain ⟨n, e⟩ := hR₁; exact Nat.ne_of_gt (Heap.lt_size e)
  obtain ⟨t, ht1, ht2⟩ := (hV' (hideAll h₄ [R]) ⟨_, hideAll_get _ ((hs₄.2 _ neR).trans hb₃) (fun q => neR (List.mem_singleton.mp q)), rfl, 0, rfl⟩).get (i := (x.fmod 8).toNat) (v := V[(x.fmod 8).toNat]) (by simp [hlt])
  have htx : thOf x = t := by unfold thOf; rw [ht1]; rfl
  rw [htx]
  exact ht2
end Mine

namespace Mine
open PySem.SeqAt

section
variable {prog : Program} {w : World} {A : Around} {E : Value → Shared → Prop} {s : Shared} {Q : Flow → Shared → Prop} {L f : Addr} {cd : Value} {m : Str → Option Value}

theorem add_any {l b : Addr} {vs ws : List Value} {Q : Value → Shared → Prop} (hl : s.heap.IsList l vs.toArray) (hb : s.heap.IsList b ws.toArray) (hsz : vs.length + ws.length ≤ 10000)
    (h : ∀ h', h'.PlainList s.heap.objs.size (vs ++ ws).toArray → h'.objs.size = s.heap.objs.size + 1 → (∀ b o, s.heap.get? b = some o → h'.get? b = some o) → Q (.ref s.heap.objs.size) { s with heap := h' }) : wpAny (model prog w) A (binaryOp .Add (.ref l) (.ref b)) Q E s := by
  obtain ⟨⟨cls, dd, data, sl⟩, ho, hc, n, hd⟩ := id hl
  obtain ⟨⟨cls2, dd2, data2, sl2⟩, ho2, hc2, n2, hd2⟩ := id hb
  simp only at hc hd hc2 hd2
  subst hc hd hc2 hd2
  have e : vs.toArray ++ ws.toArray = (vs ++ ws).toArray := by simp
  refine concat_meets ⟨_, ho, rfl⟩ ⟨_, ho2, rfl⟩ noFill_list_add seq_list_add PySem.F.slot_list_add PySem.F.entry_list_add (PySem.F.args_list_add_2 _ _) (list_addW l b vs.toArray ws.toArray n n2 dd dd2 sl sl2 (by rw [sizeLine_eq]; simp; omega)) ⟨ho, ho2, ?_⟩
  rw [e]
  exact h _ ⟨0, Heap.get?_push_size _ rfl⟩ (Heap.size_push _ _) fun b o e => Heap.get?_push_of_some _ e

/-- things of the row, apart from the row itself -/
theorem ThAll.hid {h h' : Heap} {R : Addr} {vs : List Value} {ts : List Th} (x : ThAll (hideAll h [R]) vs ts) (k : ∀ b o xs n, b ≠ R → h.get? b = some o → o.data = .seq xs n → h'.get? b = some o) : ThAll (hideAll h' [R]) vs ts :=
  x.kept fun b o xs n ho hd => by
    have hb : b ≠ R := by
      rintro rfl
      rw [hideAll_none _ (List.mem_singleton.mpr rfl)] at ho; cases ho
    exact hideAll_get _ (k b o xs n hb (of_hideAll _ ho) hd) fun q => hb (List.mem_singleton.mp q)
theorem ThAll.unhid {h : Heap} {R : Addr} {vs : List Value} {ts : List Th} (x : ThAll (hideAll h [R]) vs ts) : ThAll h vs ts := x.kept fun _ _ _ _ ho _ => of_hideAll _ ho

structure RowAt (s : Shared) (L I R l : Addr) (vs : List Value) (ns : List Int) (sv : Option Value) (i : Nat) (h' : Heap) : Prop where
  iter : h'.IsListIter I l i
  lst : h'.IsList l vs.toArray
  loc : ∃ m, h'.Ns L m ∧ m "row" = some (.ref R) ∧ m "script" = sv
  row : ∃ items, h'.PlainList R (items : List Value).toArray ∧ ThAll (hideAll h' [R]) items ((ns.take i).map thOf)
  keep : ∀ b o, b ≠ L → b ≠ I → b ≠ R → s.heap.get? b = some o → h'.get? b = some o

set_option maxHeartbeats 1000000 in
theorem row_loop {Rr : Result → Shared → Prop} {I R l : Addr} {vs : List Value} {ns : List Int} {sv : Option Value} {px : Pos} (hh : A.handled = none) (hsz : ns.length ≤ 500) (hI : IntsAre vs ns) (hRl : l ≠ R)
    (C : RowAt s L I R l vs ns sv 0 s.heap)
    (ok : ∀ h' tk m' items, h'.Ns L m' → m' "row" = some (.ref R) → m' "script" = sv → h'.PlainList R (items : List Value).toArray → ThAll (hideAll h' [R]) items (ns.map thOf) →
      (∀ b o, b ≠ L → b ≠ I → b ≠ R → s.heap.get? b = some o → h'.get? b = some o) → Rr (.ok .next) { s with heap := h', toks := tk }) :
    codeAny (model prog w) A (.forLoop (.Name "x" px) (.ref I) rowLoopBody [] (lEnv L f cd)) Rr s := by
  refine codeAny_forLoop (fun k s' => ∃ h' tk i, s' = { s with heap := h', toks := tk } ∧ RowAt s L I R l vs ns sv i h' ∧ i ≤ ns.length ∧ k = ns.length + 1 - i) ?_ (ns.length + 1)
    ⟨s.heap, s.toks, 0, rfl, C, Nat.zero_le _, rfl⟩
  rintro k s' ⟨h, tk, i, rfl, C₁, hi, rfl⟩
  have hlen := hI.length
  obtain ⟨m, hn, hm1, hm2⟩ := C₁.loc
  obtain ⟨items, hR, hth⟩ := id C₁.row
  have neLI := ns_not_iter hn C₁.iter
  have neRI : R ≠ I := by obtain ⟨n, e⟩ := hR; exact iter_not_seq C₁.iter e rfl
  have neRL : R ≠ L := by obtain ⟨n, e⟩ := hR; exact ns_not_seq hn e rfl
  have nelI : l ≠ I := by obtain ⟨o, e, _, n, hd⟩ := C₁.lst; exact iter_not_seq C₁.iter e hd
  have nelL : l ≠ L := by obtain ⟨o, e, _, n, hd⟩ := C₁.lst; exact ns_not_seq hn e hd
  by_cases hlt : i < ns.length
  · have hlt' : i < vs.length := by omega
    obtain ⟨t, ht⟩ := hI.get i ns[i] (by simp [hlt])
    refine wpAny_pyNext_list_item (x := .int ns[i] t) C₁.iter C₁.lst (by simpa using ht) fun h₁ hit₁ hs₁ => ?_
    have hn₁ : h₁.Ns L m := hn.sameBut hs₁ neLI
    refine wpAny_assign_Name (stL hn₁ fun h₂ hn₂ hs₂ => ?_)
    have k₂ : ∀ b o, b ≠ L → b ≠ I → h.get? b = some o → h₂.get? b = some o := fun b o h1 h2 e => (hs₂.2 b h1).trans ((hs₁.2 b h2).trans e)
    have hR₂ : h₂.PlainList R items.toArray := by obtain ⟨n, e⟩ := hR; exact ⟨n, k₂ R _ neRL neRI e⟩
    have hlen₂ := hth.length
    rw [List.length_map, List.length_take] at hlen₂
    refine row_turn (s := { s with heap := h₂, toks := _ }) (R := R) (x := ns[i]) (u := t) hn₂ rfl hm1 hR₂ (by omega) fun h₃ tk₃ v m₃ hn₃ hr₃ hs₃ hR₃ hv₃ hk₃ => ?_
    have k₃ : ∀ b o, b ≠ L → b ≠ I → b ≠ R → h.get? b = some o → h₃.get? b = some o := fun b o h1 h2 h3 e => hk₃ b o h1 h3 (k₂ b o h1 h2 e)
    refine ⟨ns.length + 1 - (i + 1), by omega, h₃, tk₃, i + 1, rfl, ?_, hlt, rfl⟩
    refine ⟨?_, ?_, ⟨m₃, hn₃, hr₃, hs₃.trans hm2⟩, ⟨items ++ [v], hR₃, ?_⟩, fun b o h1 h2 h3 e => k₃ b o h1 h2 h3 (C₁.keep b o h1 h2 h3 e)⟩
    · obtain ⟨o, a, b⟩ := hit₁
      exact ⟨o, hk₃ I o (Ne.symm neLI) (Ne.symm neRI) ((hs₂.2 I (Ne.symm neLI)).trans a), b⟩
    · obtain ⟨o, a, b⟩ := C₁.lst
      exact ⟨o, k₃ l o nelL nelI hRl a, b⟩
    · have e1 : (ns.take (i + 1)).map thOf = (ns.take i).map thOf ++ [thOf ns[i]] := by
        rw [List.take_add_one, List.map_append]; simp [hlt]
      rw [e1]
      exact (hth.hid fun b o xs n hb e hd => k₃ b o (ns_not_seq hn e hd) (iter_not_seq C₁.iter e hd) hb e).snoc hv₃
  · have hin : i = ns.length := by omega
    subst hin
    refine wpAny_pyNext_list_end hh C₁.iter C₁.lst (by simp [hlen]) fun h₁ hs₁ => wpAny_execs_nil ?_
    have k₁ : ∀ b o, b ≠ I → h.get? b = some o → h₁.get? b = some o := fun b o hb e => hs₁ b o hb e
    refine ok h₁ _ m items (hn.extBut hs₁ neLI) hm1 hm2 (by obtain ⟨n, e⟩ := hR; exact ⟨n, k₁ R _ neRI e⟩) ?_ fun b o h1 h2 h3 e => k₁ b o h2 (C₁.keep b o h1 h2 h3 e)
    have e1 : ns.map thOf = (ns.take ns.length).map thOf := by rw [List.take_length]
    rw [e1]
    exact hth.hid fun b o xs n hb e hd => k₁ b o (iter_not_seq C₁.iter e hd) e

theorem newList_as {V : List Value} {P : List Value → Prop} {Q : Value → Shared → Prop} (hP : P V) (hsz : V.length ≤ sizeLine) (h : ∀ V' h', P V' → h'.PlainList s.heap.objs.size V'.toArray → h'.objs.size = s.heap.objs.size + 1 → (∀ b o, s.heap.get? b = some o → h'.get? b = some o) → Q (.ref s.heap.objs.size) { s with heap := h' }) :
    wpAny (model prog w) A (newList V) Q E s := wpAny_newList (h V _ hP ⟨0, Heap.get?_push_size _ rfl⟩ (Heap.size_push _ _) fun b o e => Heap.get?_push_of_some _ e) hsz

def first8 : List Int := [1, 8, 19, 2, 7, 12, 6, 3]

set_option maxHeartbeats 1000000 in
theorem law01 {sc : Addr} {vs : List Value} {ns : List Int} (hh : A.handled = none) (hn : s.heap.Ns L m) (hm : m "script" = some (.ref sc)) (hl : s.heap.IsList sc vs.toArray) (hI : IntsAre vs ns) (hsz : ns.length ≤ 100)
    (h : ∀ h' tk m' R items, h'.Ns L m' → m' "row" = some (.ref R) → m' "script" = some (.ref sc) → h'.PlainList R (items : List Value).toArray → ThAll (hideAll h' [R]) items ((first8 ++ ns).map thOf) →
      s.heap.get? R = none → (∀ b o, b ≠ L → s.heap.get? b = some o → h'.get? b = some o) → wpAny (model prog w) A (execs ((fnBody 5).drop 2) (lEnv L f cd)) Q E { s with heap := h', toks := tk }) :
    wpAny (model prog w) A (execs (fnBody 5) (lEnv L f cd)) Q E s := by
  refine wpAny_execs_cons ?_
  refine wpAny_Assign_Name ?_
  refine List_ ?_
  refine args_nil ?_
  refine wpAny_newList ?_
  have hn₁ := hn.push { cls := .type "list", data := .seq ([] : List Value).toArray }
  refine stL hn₁ fun h₂ hn₂ hs₂ => ?_
  have hlt : L < s.heap.objs.size := hn.lt
  have neRL : s.heap.objs.size ≠ L := Nat.ne_of_gt hlt
  have hR₂ : h₂.PlainList s.heap.objs.size ([] : List Value).toArray := ⟨0, (hs₂.2 _ neRL).trans (Heap.get?_push_size _ rfl)⟩
  have k₂ : ∀ b o, b ≠ L → s.heap.get? b = some o → h₂.get? b = some o := fun b o hb e => (hs₂.2 b hb).trans (Heap.get?_push_of_some _ e)
  have hl₂ : h₂.IsList sc vs.toArray := by obtain ⟨o, e, hc, n, hd⟩ := hl; exact ⟨o, k₂ sc o (ns_not_seq hn e hd) e, hc, n, hd⟩
  refine wpAny_execs_cons ?_
  refine wpAny_For ?_
  refine wpAny_BinOp ?_
  refine List_ ?_
  refine args_cons ?_
  refine wpAny_Constant_int ?_
  refine args_cons ?_
  refine wpAny_Constant_int ?_
  refine args_cons ?_
  refine wpAny_Constant_int ?_
  refine args_cons ?_
  refine wpAny_Constant_int ?_
  refine args_cons ?_
  refine wpAny_Constant_int ?_
  refine args_cons ?_
  refine wpAny_Constant_int ?_
  refine args_cons ?_
  refine wpAny_Constant_int ?_
  refine args_cons ?_
  refine wpAny_Constant_int ?_
  refine args_nil ?_
  refine newList_as (P := fun V => IntsAre V first8) (.cons _ _ (.cons _ _ (.cons _ _ (.cons _ _ (.cons _ _ (.cons _ _ (.cons _ _ (.cons _ _ .nil)))))))) (by rw [sizeLine_eq]; exact Nat.le_of_ble_eq_true rfl) fun V h₃ hVI hV₃ hs3 k₃ => ?_
  refine ldL (s := { s with heap := h₃, toks := _ }) (hn₂.keeps k₃) hm ?_
  have hlen := hI.length
  have hlenV := hVI.length
  have h8 : first8.length = 8 := rfl
  refine add_any (s := { s with heap := h₃, toks := _ }) (vs := V) (ws := vs) hV₃.isList (by obtain ⟨o, e, r⟩ := hl₂; exact ⟨o, k₃ _ _ e, r⟩) (by omega) fun h₄ hl₄' hs4 k₄' => ?_
  have hl₄ : h₄.IsList h₃.objs.size (V ++ vs).toArray := hl₄'.isList
  have k₄ : ∀ b o, h₂.get? b = some o → h₄.get? b = some o := fun b o e => k₄' b o (k₃ b o e)
  dsimp only at hs3 hs4
  refine wpAny_pyIter_list hl₄ ?_
  have hall := hVI.append hI
  have hs2 : h₂.objs.size = s.heap.objs.size + 1 := hs₂.1.trans (Heap.size_push _ _)
  have hI₅ : s.heap.objs.size < h₄.objs.size := by rw [hs4, hs3, hs2]; exact Nat.lt_succ_of_lt (Nat.lt_succ_of_lt (Nat.lt_succ_self _))
  have hneI : ∀ b o, s.heap.get? b = some o → b ≠ h₄.objs.size := fun b o e => Nat.ne_of_lt (Nat.lt_trans (Heap.lt_size e) hI₅)
  refine row_loop (I := h₄.objs.size) (R := s.heap.objs.size) (l := h₃.objs.size) (vs := V ++ vs) (ns := first8 ++ ns) (sv := some (.ref sc)) hh (by rw [List.length_append]; omega) hall (by rw [hs3, hs2]; exact Nat.ne_of_gt (Nat.lt_succ_of_lt (Nat.lt_succ_self _)))
    ⟨⟨_, Heap.get?_push_size _ rfl, rfl, rfl⟩, hl₄.push _, ⟨_, (hn₂.keeps k₄).push _, rfl, hm⟩, ⟨[], by obtain ⟨n, e⟩ := hR₂; exact ⟨n, Heap.get?_push_of_some _ (k₄ _ _ e)⟩, .nil⟩, fun b o _ _ _ e => e⟩ fun h₆ tk₆ m₆ items hn₆ hr₆ hs₆ hR₆ hth₆ hk₆ => ?_
  have nosome : s.heap.get? s.heap.objs.size = none := by
    cases q : s.heap.get? s.heap.objs.size with
    | none => rfl
    | some o => exact absurd (Heap.lt_size q) (Nat.lt_irrefl _)
  exact h h₆ tk₆ m₆ s.heap.objs.size items hn₆ hr₆ hs₆ hR₆ hth₆ nosome fun b o hb e => hk₆ b o hb (hneI b o e) (fun q => by rw [q, nosome] at e; cases e) (Heap.get?_push_of_some _ (k₄ b o (k₂ b o hb e)))
end
end Mine

namespace Mine
open PySem.SeqAt

theorem TabIs.get {kvs : List (Key × Value)} {cs : Tab} (h : TabIs kvs cs) : ∀ {i : Nat} {k : Key} {v : Value}, kvs[i]? = some (k, v) → ∃ c, cs[i]? = some (k, c) ∧ c.is v := by
  induction h with
  | nil => intro i k v e; simp at e
  | cons a _ ih =>
    intro i k v e
    cases i with
    | zero => simp at e; obtain ⟨rfl, rfl⟩ := e; exact ⟨_, rfl, a⟩
    | succ i => exact ih (by simpa using e)
theorem PAll.of_get : ∀ {ps : List (Value × Value)} {cs : Tab}, ps.length = cs.length → (∀ (j : Nat) (p : Value × Value) (kc : Key × Cnt), ps[j]? = some p → cs[j]? = some kc → keyIs kc.1 p.1 = true ∧ kc.2.is p.2) → PAll ps cs
  | [], [], _, _ => .nil
  | [], _ :: _, e, _ => by simp at e
  | _ :: _, [], e, _ => by simp at e
  | p :: ps, (k, c) :: cs, e, h => .cons (h 0 p (k, c) rfl rfl).1 (h 0 p (k, c) rfl rfl).2 (PAll.of_get (by simpa using e) fun j p' kc' a b => h (j + 1) p' kc' (by simpa using a) (by simpa using b))

def rdPair (h : Heap) (a : Addr) : Value × Value := match h.get? a with
  | some o => match o.data with
    | .seq xs _ => ((xs[0]?).getD .none, (xs[1]?).getD .none)
    | _ => (.none, .none)
  | none => (.none, .none)

section
variable {prog : Program} {w : World} {A : Around} {E : Value → Shared → Prop} {s : Shared} {L f d : Addr} {cd : Value} {m : Str → Option Value} {X : Fns} {kvs : List (Key × Value)} {cs : Tab}

set_option maxHeartbeats 1000000 in
theorem eval_items {Q : Value → Shared → Prop} {p1 p2 p3 p4 p5 : Pos} (W : Wd s.heap X) (hh : A.handled = none) (hn : s.heap.Ns L m) (hm : m "tally" = some (.ref d)) (hmod : (d == sysModules) = false) (hD : s.heap.DictOf (mixKind prog w) d kvs) (hT : TabIs kvs cs) (hsz : cs.length ≤ 1000)
    (h : ∀ h' tk l, PairsAt h' l cs → (∀ b o, s.heap.get? b = some o → h'.get? b = some o) → Q (.ref l) { s with heap := h', toks := tk })
    (hline : (p3.endLine == p4.line) = true := by rfl) :
    wpAny (model prog w) A (eval (.Call (.Name "list" p1) [.Call (.Attribute (.Name "tally" p2) "items" p3) [] [] p4] [] p5) (lEnv L f cd)) Q E s := by
  refine wpAny_Call_NameR ?_
  refine ldB (X := X) W (v := .type "list") (by decide) ?_
  refine Pv.callWith_type1 ?_
  refine args_cons ?_
  refine wpAny_Call_items (knd := mixKind prog w) hmod hD rfl hline (fun Q' hq => ldL hn hm hq) ?_
  refine args_nil ?_
  have hk₁ : ∀ b o, s.heap.get? b = some o → (s.heap.push { cls := .type "dict_items", data := .fields #[.ref d] }).get? b = some o := fun b o e => Heap.get?_push_of_some _ e
  obtain ⟨od, es, ep, hod, hrest⟩ := dictOf_keeps hD hk₁
  refine kdx_call (knd := mixKind prog w) (kvs := kvs) (ep := ep) hh ⟨_, Heap.get?_push_size _ rfl, rfl, rfl⟩ ⟨od, es, hod, hrest⟩ (by rw [hT.length, sizeLine_eq]; omega) fun h' tk acc c as hk' hS hlen hG hacc => ?_
  refine h h' tk _ ⟨as.map Value.ref, as.map (rdPair h'), ?_, by simp, ?_, ?_⟩ fun b o e => hk' b o (hk₁ b o e)
  · rw [← hacc]; exact ⟨c, hS⟩
  · intro j v p hv hp
    rw [List.getElem?_map] at hv hp
    cases ha : as[j]? with
    | none => rw [ha] at hv; cases hv
    | some a =>
      rw [ha] at hv hp
      cases hv; cases hp
      obtain ⟨key, k, x, e1, e2, e3⟩ := hG.pairs j a ha
      refine ⟨a, rfl, _, e3, rfl, 0, ?_⟩
      simp [rdPair, e3]
  · refine PAll.of_get (by rw [List.length_map, hlen, hT.length]) fun j p kc hp hkc => ?_
    rw [List.getElem?_map] at hp
    cases ha : as[j]? with
    | none => rw [ha] at hp; cases hp
    | some a =>
      rw [ha] at hp
      cases hp
      obtain ⟨key, k, x, e1, e2, e3⟩ := hG.pairs j a ha
      obtain ⟨c', h1, h2⟩ := hT.get e1
      rw [h1] at hkc; cases hkc
      refine ⟨?_, ?_⟩
      · simp only [rdPair, e3]; exact e2
      · simp only [rdPair, e3]; exact h2
end
end Mine

namespace Mine
open PySem.SeqAt

def cs0 (ns : List Int) : Tab := [(.inl 0, .int ns.sum), (.inr "b", .int (ns.length : Nat)), (.inl 2, .bool true), (.inl 3, .bool false), (fullK, .str "text")]

section
variable {prog : Program} {w : World} {A : Around} {E : Value → Shared → Prop} {s : Shared} {Q : Flow → Shared → Prop} {L f sc : Addr} {cd : Value} {m : Str → Option Value} {X : Fns} {vs : List Value} {ns : List Int}

theorem tab0 (ns : List Int) {v1 v2 v3 v4 v5 : Value} (h1 : Cnt.is (.int ns.sum) v1) (h2 : Cnt.is (.int (ns.length : Nat)) v2) (h3 : Cnt.is (.bool true) v3) (h4 : Cnt.is (.bool false) v4) (h5 : Cnt.is (.str "text") v5) :
    TabIs (merged [] [(.inl 0, v1), (.inr "b", v2), (.inl 2, v3), (.inl 3, v4), (fullK, v5)]) (cs0 ns) := by
  have e : merged [] [((.inl 0 : Key), v1), (.inr "b", v2), (.inl 2, v3), (.inl 3, v4), (fullK, v5)] = [(.inl 0, v1), (.inr "b", v2), (.inl 2, v3), (.inl 3, v4), (fullK, v5)] := by
    have hbf : ¬ ((Str.ofString "b") = (Str.ofString "full")) := by decide
    simp [merged, stored, fullK, hbf]
  rw [e]
  exact .cons h1 (.cons h2 (.cons h3 (.cons h4 (.cons h5 .nil))))

theorem cnt_len {a b : Nat} {t : Tok} (e : a = b) : Cnt.is (.int (b : Nat)) (.int ((a : Nat) : Int) t) := ⟨t, by rw [e]⟩

theorem sum_list {Q : Value → Shared → Prop} {l : Addr} (hh : A.handled = none) (hl : s.heap.IsList l vs.toArray) (hi : IntsAre vs ns)
    (h : ∀ h' tk t', (∀ b o, s.heap.get? b = some o → h'.get? b = some o) → Q (.int ns.sum t') { s with heap := h', toks := tk }) : wpAny (model prog w) A (call (.builtin "sum") [.ref l]) Q E s := by
  obtain ⟨xs, hx⟩ := hi.allInts.items
  have hl' : s.heap.IsList l (intItems xs) := hx ▸ hl
  refine sum_intListG hh hl' fun h' tk t' hk => ?_
  have e1 : ns = xs.toList.map (·.1) := by
    rw [← nums_intItems, ← hx]
    exact (show numsOf vs.toArray.toList = ns from hi.numsOf).symm
  have e2 : preSum (numAt xs) xs.size = ns.sum := by
    rw [preSum_eq, List.take_of_length_le (by simp), e1]
  rw [e2]
  exact h h' tk t' hk

set_option maxHeartbeats 1000000 in
theorem law2 (W : Wd s.heap X) (hh : A.handled = none) (hn : s.heap.Ns L m) (hm : m "script" = some (.ref sc)) (hl : s.heap.IsList sc vs.toArray) (hI : IntsAre vs ns) (hsz : ns.length ≤ 100)
    (h : ∀ h' tk kvs, h'.Ns L (fun y => if y = "tally" then some (.ref s.heap.objs.size) else m y) → h'.DictOf (mixKind prog w) s.heap.objs.size kvs → TabIs kvs (cs0 ns) →
      (∀ b o, b ≠ L → s.heap.get? b = some o → h'.get? b = some o) → wpAny (model prog w) A (execs ((fnBody 5).drop 3) (lEnv L f cd)) Q E { s with heap := h', toks := tk }) :
    wpAny (model prog w) A (execs ((fnBody 5).drop 2) (lEnv L f cd)) Q E s := by
  refine wpAny_execs_cons ?_
  refine wpAny_Assign_Name ?_
  refine wpAny_Dict_walk (knd := mixKind prog w) rfl rfl (List.cons_ne_nil _ _) (by decide) ?_
  have k₁ : ∀ b o, s.heap.get? b = some o → (s.heap.push { cls := .type "dict", data := .dict #[] }).get? b = some o := fun b o e => Heap.get?_push_of_some _ e
  have hD₁ : (s.heap.push { cls := .type "dict", data := .dict #[] }).get? s.heap.objs.size = some { cls := .type "dict", data := .dict #[] } := Heap.get?_push_size _ rfl
  have hl₁ : (s.heap.push { cls := .type "dict", data := .dict #[] }).IsList sc vs.toArray := hl.push _
  refine pairTrees_cons_walk ?_
  refine wpAny_Constant_int ?_
  refine wpAny_Call_NameR ?_
  refine ldB (X := X) (W.keeps k₁) (v := .builtin "sum") (by decide) ?_
  refine PyProof.Rows.callWith_builtin1 ?_
  refine args_cons ?_
  refine ldL (hn.push _) hm ?_
  refine args_nil ?_
  refine sum_list hh hl₁ hI fun h₂ tk₂ t₂ k₂ => ?_
  refine pairTrees_cons_walk ?_
  refine wpAny_Constant_str ?_
  refine wpAny_Call_NameR ?_
  have k₂' : ∀ b o, s.heap.get? b = some o → h₂.get? b = some o := fun b o e => k₂ b o (k₁ b o e)
  refine ldB (s := { s with heap := h₂, toks := _ }) (X := X) (W.keeps k₂') (v := .builtin "len") (by decide) ?_
  refine PyProof.Rows.callWith_builtin1 ?_
  refine args_cons ?_
  refine ldL (s := { s with heap := h₂, toks := _ }) (hn.keeps k₂') hm ?_
  refine args_nil ?_
  have hl₂ : h₂.IsList sc vs.toArray := hl.at fun o e => k₂' sc o e
  have hlen := hI.length
  refine len_list (s := { s with heap := h₂, toks := _ }) hl₂ (by rw [List.size_toArray]; omega) ?_
  refine pairTrees_cons_walk ?_
  refine wpAny_Constant_int ?_
  refine wpAny_Constant_bool ?_
  refine pairTrees_cons_walk ?_
  refine wpAny_Constant_int ?_
  refine wpAny_Constant_bool ?_
  refine pairTrees_cons_walk ?_
  refine wpAny_Constant_str ?_
  refine wpAny_Constant_str ?_
  refine pairTrees_nil_walk ?_
  have hD₂ : h₂.get? s.heap.objs.size = some { cls := .type "dict", data := .dict #[] } := k₂ _ _ hD₁
  refine ⟨[(.inl 0, _), (.inr "b", _), (.inl 2, .bool true), (.inl 3, .bool false), (fullK, _)], ⟨by simp [mixKind, keyIs, Value.isInt], rfl, by simp [mixKind, keyIs, Value.isStrOf], rfl, by simp [mixKind, keyIs, Value.isInt], rfl, by simp [mixKind, keyIs, Value.isInt], rfl, by simp [mixKind, keyIs, fullK, Value.isStrOf], rfl, trivial⟩, ?_, fun h₃ hD₃ hs₃ => ?_⟩
  · exact dictOf_keeps (Heap.DictOf.new s.heap) k₂
  · have hLlt : L < s.heap.objs.size := hn.lt
    have k₃ : ∀ b o, s.heap.get? b = some o → h₃.get? b = some o := fun b o e => (hs₃.2 b (Nat.ne_of_lt (Heap.lt_size e))).trans (k₂' b o e)
    refine stL (s := { s with heap := h₃, toks := _ }) (m := m) (hn.keeps k₃) fun h₄ hn₄ hs₄ => ?_
    refine h h₄ _ _ hn₄ (hD₃.sameBut hs₄ (Nat.ne_of_gt hLlt)) ?_ fun b o hb e => (hs₄.2 b hb).trans (k₃ b o e)
    exact tab0 _ ⟨_, rfl⟩ (cnt_len (by rw [List.size_toArray, hlen])) rfl rfl ⟨_, rfl⟩
end
end Mine

namespace Mine
open PySem.SeqAt

/-- a thing that stops the count -/
def stopT : Th → Bool
  | .box => true
  | .key k => decide (k = fullK)
def eqF : Th → Bool
  | .box => false
  | .key k => decide (k = fullK)
def isBox : Th → Bool
  | .box => true
  | .key _ => false
theorem stopT_eq (t : Th) : stopT t = (eqF t || isBox t) := by cases t <;> simp [stopT, eqF, isBox]
def stopAt (ts : List Th) (i : Nat) : Bool := match ts[i]? with
  | some t => stopT t
  | none => false
def endsOf (ts : List Th) : List Nat := (List.range ts.length).filter (stopAt ts)

def lScope (i : Nat) : Scope := compScope ((fnBody 5)[i]?)
theorem lclos4 (L f : Addr) (cd : Value) : closureFor (lScope 4) (lEnv L f cd) = pure [] := by with_unfolding_all rfl
theorem lclos8 (L f : Addr) (cd : Value) : closureFor (lScope 8) (lEnv L f cd) = pure [] := by with_unfolding_all rfl

theorem ints_of_els {P : Nat → Value → Prop} (hP : ∀ i v, P i v → ∃ t, v = .int (i : Nat) t) : ∀ {is : List Nat} {vs : List Value}, Els P is vs → IntsAre vs (is.map fun i => ((i : Nat) : Int))
  | _, _, .nil => .nil
  | _, _, .cons a r => by
    obtain ⟨t, rfl⟩ := hP _ _ a
    exact .cons _ t (ints_of_els hP r)

section
variable {prog : Program} {w : World} {A : Around} {E : Value → Shared → Prop} {s : Shared} {L f C : Addr} {cd : Value} {m : Str → Option Value} {X : Fns} {scope : Scope} {cl : List (Str × Addr)}

theorem ldKb {x : Str} {pos : Pos} {v : Value} {Q : Value → Shared → Prop} {M : Model} (W : Wd s.heap X) (hv : (x, v) ∈ bltNames) (h : Q v s)
    (hk : scope.kind = .function := by rfl) (hx : (compEnvC scope cl C (lEnv L f cd)).kindOf x = some .globalImplicit := by rfl) (hd : (x == ("__debug__" : Str)) = false := by decide) :
    wpAny M A (eval (.Name x pos) (compEnvC scope cl C (lEnv L f cd))) Q E s := by
  obtain ⟨mg, hg, _, _, _, hm⟩ := W.glob
  obtain ⟨mb, hb, hbv⟩ := W.blt
  exact Calls.Name_function_global hk hx (Calls.loadGlobal_builtin (env := compEnvC scope cl C (lEnv L f cd)) hg (hm _ hv) hb (hbv _ hv) h) hd

theorem eq_full {v : Value} {t : Th} {u : Tok} {Q : Value → Shared → Prop} (hu : A.units < cLine) (ht : ThAt s.heap v t) (h : Q (.bool (eqF t)) s) :
    wpAny (model prog w) A (compareOp .Eq v (.str "full" u)) Q E s := by
  cases ht with
  | box hl => exact RcAt.list_str "full" u hl hu prog w E Q h
  | @key k _ hk =>
    rcases keyIs_shape hk with ⟨n, t, rfl, rfl⟩ | ⟨x, t, rfl, rfl⟩
    · exact RcAt.int_str n t "full" u prog w E Q h
    · refine RcAt.str_str x t "full" u prog w E Q ?_
      have e : (x == Str.ofString "full") = decide ((Sum.inr x : Key) = fullK) := by
        by_cases q : x = Str.ofString "full"
        · subst q; simp [fullK]
        · have : ¬ ((Sum.inr x : Key) = fullK) := fun z => q (Sum.inr.inj z)
          simp [q, this]
      rw [e]; exact h

theorem isinst_list {v : Value} {t : Th} {Q : Value → Shared → Prop} (ht : ThAt s.heap v t) (h : ∀ tk, Q (.bool (isBox t)) { s with toks := tk }) :
    wpAny (model prog w) A (call (.builtin "isinstance") [v, .type "list"]) Q E s := by
  cases ht with
  | box hl => obtain ⟨o, e, hc, _⟩ := hl; exact IsiPair.list_list e hc (h s.toks)
  | @key k _ hk =>
    rcases keyIs_shape hk with ⟨n, t, rfl, rfl⟩ | ⟨x, t, rfl, rfl⟩
    · exact IsiPair.int_list (h _)
    · exact IsiPair.str_list (h _)

set_option maxHeartbeats 1000000 in
/-- the law's statement 4: the places that stop the count -/
theorem law4 {Q : Flow → Shared → Prop} {R : Addr} {items : List Value} {ts : List Th} (W : Wd s.heap X) (hh : A.handled = none) (hu : A.units < cLine) (hn : s.heap.Ns L m) (hm : m "row" = some (.ref R)) (hR : s.heap.PlainList R items.toArray) (hth : ThAll s.heap items ts) (hsz : ts.length ≤ 1000)
    (h : ∀ h' tk D es, h'.PlainList D (es : List Value).toArray → IntsAre es ((endsOf ts).map fun i => ((i : Nat) : Int)) → h'.Ns L (fun z => if z = "ends" then some (.ref D) else m z) → (∀ b o, b ≠ L → s.heap.get? b = some o → h'.get? b = some o) →
      wpAny (model prog w) A (execs ((fnBody 5).drop 5) (lEnv L f cd)) Q E { s with heap := h', toks := tk }) :
    wpAny (model prog w) A (execs ((fnBody 5).drop 4) (lEnv L f cd)) Q E s := by
  have hlen := hth.length
  have hlt : R < s.heap.objs.size := by obtain ⟨n, e⟩ := hR; exact Heap.lt_size e
  refine wpAny_execs_cons ?_
  refine comp_assign (cl := []) (by decide) (by with_unfolding_all rfl) (lclos4 L f cd) (by decide) rfl (by decide) rfl rfl ?_
  refine wpAny_Call_NameR ?_
  refine ldB (X := X) W (v := .type "enumerate") (by decide) ?_
  refine Pv.callWith_type1 ?_
  refine args_cons ?_
  refine ldL hn hm ?_
  refine args_nil ?_
  refine call_enumerate_list hR.isList fun h₁ he hit hsz₁ hk₁ => ?_
  refine wpAny_pyIter_enum he ?_
  refine ⟨_, _, _, _, stopAt ts, fun j _ y => ∃ t, y = .int (j : Nat) t, m, ⟨draws_enum (items := items) (I := s.heap.objs.size + 1) (J := s.heap.objs.size) (l := R) hh rfl rfl (by decide) rfl (by show _ < h₁.objs.size; rw [hsz₁]; exact Nat.lt_succ_self _) (by show _ < h₁.objs.size; rw [hsz₁]; exact Nat.lt_succ_of_lt (Nat.lt_succ_self _)) (by show _ < h₁.objs.size; rw [hsz₁]; exact Nat.lt_succ_of_lt (Nat.lt_succ_of_lt hlt)) (Nat.succ_ne_self _) (Nat.ne_of_lt (Nat.lt_succ_of_lt hlt)) (Nat.ne_of_lt hlt), ?_, fun i h h' y _ hy => hy, ?_, ?_, ?_⟩, ?_, hn.keeps hk₁, ?_⟩
  · rw [sizeLine_eq]; omega
  · intro C i s₃ m₃ E' hi hn₃ hbd hk₃
    obtain ⟨_, hy⟩ := hbd
    have up : ∀ b o, s.heap.get? b = some o → s₃.heap.get? b = some o := fun b o e => hk₃ b o (two_new e) (hk₁ b o e)
    obtain ⟨t, hti, htv⟩ := (hth.kept (SeqKept.of_keeps up)).get (i := i) (v := items[i]) (by simp [hi])
    have hy' : m₃ "thing" = some items[i] := by rw [hy]; simp [hi]
    have hp : stopAt ts i = stopT t := by unfold stopAt; rw [hti]
    show wpAny _ _ (isTrue _ _ _) _ _ _
    refine isTrue_or ?_
    refine wpAny_isTrue_Compare1 ?_
    refine ldK hn₃ hy' ?_
    refine wpAny_Constant_str ?_
    refine eq_full (s := { s₃ with toks := s₃.toks + 1 }) hu htv ?_
    refine wpAny_truthy_bool ?_
    have W₃ : Wd s₃.heap X := W.keeps up
    cases hb : eqF t with
    | true => exact ⟨by rw [hp, stopT_eq, hb]; rfl, s₃.heap, s₃.toks + 1, rfl, fun _ _ e => e⟩
    | false =>
      rw [if_neg (by decide)]
      refine isTrue_or ?_
      refine wpAny_isTrue_value ?_
      refine wpAny_Call_NameR ?_
      refine ldKb (s := { s₃ with toks := _ }) W₃ (v := .builtin "isinstance") (by decide) ?_
      refine PyProof.Rows.callWith_builtin1 ?_
      refine args_cons ?_
      refine ldK (s := { s₃ with toks := _ }) hn₃ hy' ?_
      refine args_cons ?_
      refine ldKb (s := { s₃ with toks := _ }) W₃ (v := .type "list") (by decide) ?_
      refine args_nil ?_
      refine isinst_list (s := { s₃ with toks := _ }) (t := t) htv fun tk => ?_
      refine wpAny_truthy_bool ?_
      cases hb2 : isBox t with
      | true => exact ⟨by rw [hp, stopT_eq, hb, hb2]; rfl, s₃.heap, tk, rfl, fun _ _ e => e⟩
      | false =>
        rw [if_neg (by decide)]
        exact isTrue_or_nil ⟨by rw [hp, stopT_eq, hb, hb2]; rfl, s₃.heap, tk, rfl, fun _ _ e => e⟩
  · intro C i s₃ m₃ E' hi hp hn₃ hbd _
    obtain ⟨⟨t, hx⟩, _⟩ := hbd
    exact ldK hn₃ hx ⟨⟨t, rfl⟩, s₃.heap, s₃.toks, rfl, fun _ _ e => e⟩
  · exact ⟨⟨_, he⟩, hit, hR.isList.at fun o e => hk₁ R o e⟩
  · obtain ⟨o, _, _, ho, _⟩ := hn
    exact two_new ho
  · intro D h' tk ys hD hl' hels hn' hk'
    rw [hlen] at hels
    refine h h' tk D ys.toList (by simpa using hl') (ints_of_els (fun _ _ x => x) hels) hn' fun b o hb e => hk' b o hb (two_new e) (hk₁ b o e)
end
end Mine

namespace Mine

theorem snoc_ind {α : Type} {P : List α → Prop} (h0 : P []) (h1 : ∀ l a, P l → P (l ++ [a])) (l : List α) : P l := by
  rw [← l.reverse_reverse]
  induction l.reverse with
  | nil => exact h0
  | cons a r ih => rw [List.reverse_cons]; exact h1 _ _ ih

theorem hasK_append (a b : List Key) (k : Key) : hasK (a ++ b) k = (hasK a k || hasK b k) := by simp [hasK]
theorem hasK_one (a k : Key) : hasK [a] k = decide (a = k) := by simp [hasK]
theorem hasK_mem {ks : List Key} {k : Key} : hasK ks k = true ↔ k ∈ ks := by
  simp only [hasK, List.any_eq_true, decide_eq_true_eq]
  constructor
  · rintro ⟨x, hx, rfl⟩; exact hx
  · intro h; exact ⟨k, h, rfl⟩
theorem cntK_append (a b : List Key) (k : Key) : cntK (a ++ b) k = cntK a k + cntK b k := by simp [cntK]
theorem cntK_one (a k : Key) : cntK [a] k = if a = k then 1 else 0 := by
  unfold cntK
  by_cases h : a = k <;> simp [h]
theorem cntK_zero {ks : List Key} {k : Key} (h : hasK ks k = false) : cntK ks k = 0 := by
  unfold cntK
  rw [List.countP_eq_zero]
  intro x hx q
  have : hasK ks k = true := hasK_mem.mpr ((of_decide_eq_true q) ▸ hx)
  rw [h] at this; cases this

theorem idxK_append_left {a b : List Key} {k : Key} (h : hasK a k = true) : idxK (a ++ b) k = idxK a k := by
  unfold idxK
  rw [List.findIdx_append]
  have : List.findIdx (fun x => decide (x = k)) a < a.length := (idxK_spec h).1
  simp [this]
theorem idxK_append_right {a b : List Key} {k : Key} (h : hasK a k = false) : idxK (a ++ b) k = a.length + idxK b k := by
  unfold idxK
  rw [List.findIdx_append]
  have : ¬ List.findIdx (fun x => decide (x = k)) a < a.length := by
    intro q
    rw [List.findIdx_lt_length] at q
    obtain ⟨x, hx, e⟩ := q
    have : hasK a k = true := hasK_mem.mpr ((of_decide_eq_true e) ▸ hx)
    rw [h] at this; cases this
  rw [if_neg this, Nat.add_comm]

theorem fmap_congr {α β : Type} {f g : α → Option β} : ∀ {l : List α}, (∀ a ∈ l, f a = g a) → l.filterMap f = l.filterMap g
  | [], _ => rfl
  | a :: r, h => by rw [List.filterMap_cons, List.filterMap_cons, h a (.head _), fmap_congr fun x hx => h x (.tail _ hx)]

theorem newOf_snoc (known ks : List Key) (k : Key) : newOf known (ks ++ [k]) = newOf known ks ++ (if hasK known k || hasK ks k then [] else [k]) := by
  unfold newOf
  rw [List.length_append, List.length_singleton, List.range_succ, List.filter_append, List.filterMap_append]
  congr 1
  · have h1 : ∀ i, i ∈ List.range ks.length → newAt known (ks ++ [k]) i = newAt known ks i := by
      intro i hi
      have hi' : i < ks.length := List.mem_range.mp hi
      have e1 : ks[i]? = some ks[i] := List.getElem?_eq_getElem hi'
      have e2 : (ks ++ [k])[i]? = some ks[i] := by rw [List.getElem?_append_left hi', e1]
      unfold newAt
      rw [e1, e2]
      simp only
      rw [idxK_append_left (hasK_get e1)]
    rw [List.filter_congr h1]
    refine fmap_congr fun i hi => ?_
    have hi' : i < ks.length := List.mem_range.mp (List.mem_filter.mp hi).1
    rw [List.getElem?_append_left hi']
  · have e : (ks ++ [k])[ks.length]? = some k := by simp
    have e2 : newAt known (ks ++ [k]) ks.length = !(hasK known k || hasK ks k) := by
      unfold newAt
      rw [e]
      simp only
      cases hb : hasK ks k with
      | true =>
        have := (idxK_spec hb).1
        rw [idxK_append_left hb]
        have h3 : ¬ (idxK ks k = ks.length) := by omega
        simp [h3]
      | false =>
        rw [idxK_append_right hb]
        have h4 : idxK [k] k = 0 := by simp [idxK]
        simp [h4]
    cases hc : (hasK known k || hasK ks k) with
    | true => rw [hc] at e2; simp [e2]
    | false => rw [hc] at e2; simp [e2]

theorem hasK_newOf (known ks : List Key) (k : Key) : hasK (newOf known ks) k = (!hasK known k && hasK ks k) := by
  induction ks using snoc_ind with
  | h0 => simp [newOf, hasK]
  | h1 l a ih =>
    rw [newOf_snoc, hasK_append, ih, hasK_append, hasK_one]
    by_cases e : a = k
    · subst e
      cases hasK known a <;> cases hasK l a <;> simp [hasK]
    · have : hasK (if hasK known a || hasK l a then [] else [a]) k = false := by
        split <;> simp [hasK, e]
      rw [this]
      simp [e]

/-- a table as keys and a function -/
def tabOf (keys : List Key) (g : Key → Cnt) : Tab := keys.map fun k => (k, g k)
def g0 (keys : List Key) (g : Key → Cnt) (k : Key) : Cnt := if hasK keys k then g k else .int 0
def cntI (g : Key → Cnt) (ks : List Key) (k : Key) : Cnt := if hasK ks k then .int ((g k).num + (cntK ks k : Nat)) else g k

theorem countedOf_eq (keys : List Key) (g : Key → Cnt) (ks : List Key) : countedOf (tabOf keys g) ks = tabOf (keys ++ newOf keys ks) (cntI (g0 keys g) ks) := by
  unfold countedOf tabOf aftOf
  rw [List.map_append]
  have hkeys : (keys.map fun k => (k, g k)).map (·.1) = keys := by
    rw [List.map_map]; exact List.map_id keys
  rw [hkeys]
  congr 1
  · rw [List.map_map]
    refine List.map_congr_left fun k hk => ?_
    have : hasK keys k = true := hasK_mem.mpr hk
    simp [aftC, cntI, g0, this]
  · refine List.map_congr_left fun k hk => ?_
    have h1 : hasK (newOf keys ks) k = true := hasK_mem.mpr hk
    rw [hasK_newOf] at h1
    simp only [Bool.and_eq_true, Bool.not_eq_true'] at h1
    simp [cntNew, cntI, g0, h1.1, h1.2, Cnt.num]

theorem tabAt_tabOf (keys : List Key) (g : Key → Cnt) (k : Key) : tabAt (tabOf keys g) k = if hasK keys k then some (g k) else none := by
  induction keys with
  | nil => rfl
  | cons a r ih =>
    unfold tabAt tabOf at ih ⊢
    rw [List.map_cons, List.find?_cons]
    by_cases e : a = k
    · subst e; simp [hasK]
    · have h1 : hasK (a :: r) k = hasK r k := by simp [hasK, e]
      simp only [e, decide_false]
      rw [h1]; exact ih

theorem tabPut_tabOf (keys : List Key) (g : Key → Cnt) (k : Key) (c : Cnt) : tabPut (tabOf keys g) k c = tabOf (keys ++ if hasK keys k then [] else [k]) (fun x => if x = k then c else g x) := by
  unfold tabPut tabOf
  have hany : (keys.map fun k => (k, g k)).any (fun x => decide (x.1 = k)) = hasK keys k := by
    unfold hasK; rw [List.any_map]; rfl
  rw [hany]
  cases hb : hasK keys k with
  | true =>
    simp only [if_true, List.append_nil, List.map_map]
    refine List.map_congr_left fun x _ => ?_
    by_cases e : x = k <;> simp [e]
  | false =>
    simp only [Bool.false_eq_true, if_false, List.map_append, List.map_cons, List.map_nil, if_true]
    congr 1
    refine List.map_congr_left fun x hx => ?_
    have : x ≠ k := by
      rintro rfl
      rw [hasK_mem.mpr hx] at hb; cases hb
    simp [this]

theorem countRun_append : ∀ (cs : Tab) (a b : List Th) {cs' : Tab}, countRun cs a = (cs', true) → countRun cs (a ++ b) = countRun cs' b
  | cs, [], b, cs', h => by cases h; rfl
  | cs, t :: r, b, cs', h => by
    rw [List.cons_append]
    simp only [countRun] at h ⊢
    cases hc : countOne cs t with
    | none => rw [hc] at h; simp at h
    | some c => rw [hc] at h; exact countRun_append c r b h

theorem bump_plain {c : Cnt} (h : c.plain = true) : c.bump = some (c.num + 1) := by
  cases c with
  | int i => rfl
  | bool b => rfl
  | str x => cases h

theorem run_keys (keys : List Key) (g : Key → Cnt) (ks : List Key) (hpl : ∀ k ∈ ks, hasK keys k = true → (g k).plain = true) :
    countRun (tabOf keys g) (ks.map .key) = (tabOf (keys ++ newOf keys ks) (cntI (g0 keys g) ks), true) := by
  induction ks using snoc_ind with
  | h0 =>
    have e1 : newOf keys [] = [] := rfl
    rw [e1, List.append_nil]
    show (tabOf keys g, true) = _
    congr 1
    refine List.map_congr_left fun k hk => ?_
    have : hasK keys k = true := hasK_mem.mpr hk
    have h2 : hasK [] k = false := rfl
    simp [cntI, g0, this, h2]
  | h1 ks k ih =>
    rw [List.map_append, countRun_append _ _ _ (ih fun x hx => hpl x (List.mem_append_left _ hx))]
    have hk : hasK keys k = true → (g k).plain = true := hpl k (List.mem_append_right _ (List.mem_singleton.mpr rfl))
    have hplain : (g0 keys g k).plain = true := by
      unfold g0
      cases hb : hasK keys k with
      | true => exact hk hb
      | false => rfl
    have hin : hasK (keys ++ newOf keys ks) k = (hasK keys k || hasK ks k) := by
      rw [hasK_append, hasK_newOf]
      cases hasK keys k <;> simp
    have hbump : ((tabAt (tabOf (keys ++ newOf keys ks) (cntI (g0 keys g) ks)) k).getD (.int 0)).bump = some ((g0 keys g k).num + (cntK (ks ++ [k]) k : Nat)) := by
      rw [tabAt_tabOf, hin, cntK_append, cntK_one, if_pos rfl]
      cases hb2 : hasK ks k with
      | true =>
        simp only [Bool.or_true, if_true, Option.getD_some, cntI, hb2, Cnt.bump]
        congr 1; omega
      | false =>
        rw [cntK_zero hb2]
        cases hb1 : hasK keys k with
        | true =>
          simp only [Bool.or_false, if_true, Option.getD_some, cntI, hb2, Bool.false_eq_true, if_false]
          rw [bump_plain hplain]
          rfl
        | false =>
          simp [g0, hb1, Cnt.bump, Cnt.num]
    show (match countOne _ (Th.key k) with | none => _ | some cs' => countRun cs' []) = _
    simp only [countOne, hbump, Option.map_some]
    show (tabPut _ _ _, true) = _
    rw [tabPut_tabOf, hin, newOf_snoc, List.append_assoc]
    congr 1
    refine List.map_congr_left fun x hx => ?_
    by_cases e : x = k
    · subst e
      have : hasK (ks ++ [x]) x = true := by rw [hasK_append, hasK_one]; simp
      simp [cntI, this]
    · have h1 : hasK (ks ++ [k]) x = hasK ks x := by rw [hasK_append, hasK_one]; simp [Ne.symm e]
      have h2 : cntK (ks ++ [k]) x = cntK ks x := by rw [cntK_append, cntK_one, if_neg (Ne.symm e)]; rfl
      simp [e, cntI, h1, h2]

/-- what the tables of the law are -/
structure TabGood (cs : Tab) : Prop where
  form : ∃ keys g x, cs = tabOf keys g ∧ hasK keys fullK = true ∧ g fullK = .str x ∧ ∀ k ∈ keys, k ≠ fullK → (g k).plain = true

theorem TabGood.plain {cs : Tab} (G : TabGood cs) {ks : List Key} (hf : hasK ks fullK = false) : ∀ kc ∈ cs, hasK ks kc.1 = true → kc.2.plain = true := by
  obtain ⟨keys, g, x, rfl, h1, h2, h3⟩ := G.form
  intro kc hkc hb
  obtain ⟨k, hk, rfl⟩ := List.mem_map.mp hkc
  refine h3 k hk ?_
  rintro rfl
  rw [hf] at hb; cases hb

theorem TabGood.counted {cs : Tab} (G : TabGood cs) {ks : List Key} (hf : hasK ks fullK = false) : TabGood (countedOf cs ks) := by
  obtain ⟨keys, g, x, rfl, h1, h2, h3⟩ := G.form
  refine ⟨_, _, x, countedOf_eq keys g ks, by rw [hasK_append, h1]; rfl, by simp [cntI, hf, g0, h1, h2], fun k hk hne => ?_⟩
  unfold cntI
  cases hb : hasK ks k with
  | true => rfl
  | false =>
    simp only [Bool.false_eq_true, if_false, g0]
    cases hb2 : hasK keys k with
    | true => exact h3 k (hasK_mem.mp hb2) hne
    | false => rfl

theorem TabGood.run {cs : Tab} (G : TabGood cs) {ks : List Key} (hf : hasK ks fullK = false) (rest : List Th) (hr : rest = [] ∨ ∃ t r, rest = t :: r ∧ stopT t = true) :
    countRun cs (ks.map .key ++ rest) = (countedOf cs ks, rest.isEmpty) := by
  have G' := G.counted hf
  obtain ⟨keys, g, x, rfl, h1, h2, h3⟩ := G.form
  rw [countRun_append _ _ _ (run_keys keys g ks fun k hk hb => h3 k (hasK_mem.mp hb) (by
    rintro rfl
    rw [hasK_mem.mpr hk] at hf; cases hf)), ← countedOf_eq]
  rcases hr with rfl | ⟨t, r, rfl, ht⟩
  · rfl
  · cases t with
    | box => rfl
    | key k =>
      obtain rfl : k = fullK := of_decide_eq_true ht
      have hnone : countOne (countedOf (tabOf keys g) ks) (.key fullK) = none := by
        rw [countedOf_eq]
        simp only [countOne, tabAt_tabOf]
        rw [hasK_append, h1]
        simp [cntI, hf, g0, h1, h2, Cnt.bump]
      simp [countRun, hnone]

theorem TabGood.start (ns : List Int) : TabGood (cs0 ns) := by
  refine ⟨[.inl 0, .inr "b", .inl 2, .inl 3, fullK], fun k => if k = fullK then .str "text" else if k = .inl 0 then .int ns.sum else if k = .inr "b" then .int (ns.length : Nat) else if k = .inl 2 then .bool true else .bool false, "text", ?_, ?_, ?_, ?_⟩
  · have hb : ¬ ((Sum.inr (Str.ofString "b") : Key) = fullK) := by decide
    simp [tabOf, cs0, fullK]
    decide
  · decide
  · simp
  · intro k _ hne
    simp only [if_neg hne]
    split
    · rfl
    · split
      · rfl
      · split <;> rfl
theorem countedOf_length (cs : Tab) (ks : List Key) : (countedOf cs ks).length ≤ cs.length + ks.length := by
  have := newOf_length (cs.map (·.1)) ks
  simp only [countedOf, aftOf, List.length_append, List.length_map]
  omega
end Mine

namespace Mine

def endsFrom : Nat → List Th → List Nat
  | _, [] => []
  | n, t :: r => if stopT t then n :: endsFrom (n + 1) r else endsFrom (n + 1) r

theorem endsFrom_eq (ts : List Th) : ∀ (l : List Th) (n : Nat), ts.drop n = l → (List.range' n l.length).filter (stopAt ts) = endsFrom n l
  | [], n, _ => rfl
  | t :: r, n, h => by
    have h1 : ts[n]? = some t := by
      have := congrArg (fun x => x[0]?) h
      simpa using this
    have h2 : ts.drop (n + 1) = r := by
      have := congrArg (fun x => x.drop 1) h
      simpa [List.drop_drop] using this
    rw [List.length_cons, List.range'_succ, List.filter_cons]
    have h3 : stopAt ts n = stopT t := by unfold stopAt; rw [h1]
    rw [h3, endsFrom_eq ts r (n + 1) h2]
    rfl
theorem endsOf_eq (ts : List Th) : endsOf ts = endsFrom 0 ts := by
  unfold endsOf
  rw [List.range_eq_range']
  exact endsFrom_eq ts ts 0 rfl

theorem ends_none : ∀ (l : List Th) (n : Nat), endsFrom n l = [] → ∃ ks : List Key, l = ks.map .key ∧ hasK ks fullK = false
  | [], _, _ => ⟨[], rfl, rfl⟩
  | t :: r, n, h => by
    cases hb : stopT t with
    | true => simp [endsFrom, hb] at h
    | false =>
      obtain ⟨ks, h1, h2⟩ := ends_none r (n + 1) (by simpa [endsFrom, hb] using h)
      cases t with
      | box => cases hb
      | key k =>
        refine ⟨k :: ks, by rw [h1]; rfl, ?_⟩
        have : ¬ (k = fullK) := of_decide_eq_false hb
        simp only [hasK, List.any_cons] at h2 ⊢
        rw [h2]; simp [this]
theorem ends_some : ∀ (l : List Th) (n e : Nat) (es : List Nat), endsFrom n l = e :: es → ∃ (ks : List Key) (t : Th) (r : List Th), l = ks.map .key ++ t :: r ∧ hasK ks fullK = false ∧ stopT t = true ∧ e = n + ks.length ∧ es = endsFrom (e + 1) r
  | [], _, _, _, h => by simp [endsFrom] at h
  | t :: r, n, e, es, h => by
    cases hb : stopT t with
    | true =>
      simp only [endsFrom, hb, if_true, List.cons.injEq] at h
      exact ⟨[], t, r, rfl, rfl, hb, by simp [h.1], by rw [← h.1]; exact h.2.symm⟩
    | false =>
      obtain ⟨ks, t', r', h1, h2, h3, h4, h5⟩ := ends_some r (n + 1) e es (by simpa [endsFrom, hb] using h)
      cases t with
      | box => cases hb
      | key k =>
        refine ⟨k :: ks, t', r', by rw [h1]; rfl, ?_, h3, by rw [h4, List.length_cons]; omega, h5⟩
        have : ¬ (k = fullK) := of_decide_eq_false hb
        simp only [hasK, List.any_cons] at h2 ⊢
        rw [h2]; simp [this]

/-- one end ahead -/
theorem seg {ts : List Th} {n e : Nat} {es : List Nat} (hn : n ≤ ts.length) (h : e :: es = endsFrom n (ts.drop n) ++ [ts.length]) :
    ∃ (ks : List Key) (rest : List Th), ts.drop n = ks.map .key ++ rest ∧ hasK ks fullK = false ∧ e = n + ks.length ∧ e ≤ ts.length ∧ (rest = [] ∨ ∃ t r, rest = t :: r ∧ stopT t = true) ∧ decide (e < ts.length) = !rest.isEmpty ∧
      (es = [] ∨ (e + 1 ≤ ts.length ∧ es = endsFrom (e + 1) (ts.drop (e + 1)) ++ [ts.length])) := by
  have hlen : (ts.drop n).length = ts.length - n := List.length_drop
  cases hc : endsFrom n (ts.drop n) with
  | nil =>
    rw [hc] at h
    simp only [List.nil_append, List.cons.injEq] at h
    obtain ⟨ks, h1, h2⟩ := ends_none _ _ hc
    have h3 := congrArg List.length h1
    rw [hlen, List.length_map] at h3
    refine ⟨ks, [], by rw [h1, List.append_nil], h2, by omega, by omega, .inl rfl, ?_, .inl h.2⟩
    rw [h.1]; simp
  | cons e' es' =>
    rw [hc] at h
    simp only [List.cons_append, List.cons.injEq] at h
    obtain ⟨ks, t, r, h1, h2, h3, h4, h5⟩ := ends_some _ _ _ _ hc
    obtain ⟨rfl, rfl⟩ := h
    have h6 := congrArg List.length h1
    rw [hlen] at h6
    simp only [List.length_append, List.length_map, List.length_cons] at h6
    have hr : ts.drop (e + 1) = r := by
      have h7 : ts.drop (e + 1) = (ts.drop n).drop (ks.length + 1) := by
        rw [List.drop_drop]; congr 1; omega
      rw [h7, h1, List.drop_append]
      have h8 : (ks.map Th.key).length = ks.length := List.length_map _
      rw [List.drop_eq_nil_of_le (by omega), h8]
      simp
    refine ⟨ks, t :: r, h1, h2, h4, by omega, .inr ⟨t, r, rfl, h3⟩, ?_, .inr ⟨by omega, by rw [h5, hr]⟩⟩
    have : e < ts.length := by omega
    simp [this]
end Mine

namespace Mine
open PySem.SeqAt

/-- the law's frame on the stack -/
structure LawA (A : Around) (L f : Addr) (cd : Value) (h₀ : Heap) : Prop where
  frames : A.frames = some [lEnv L f cd]
  hand : A.handled = none
  room : A.depth + 10 < recursionLimit
  units : A.units + 100 < cLine
  new : h₀.get? L = none

theorem LawA.stk {A : Around} {L f : Addr} {cd : Value} {h₀ h : Heap} {m : Str → Option Value} (Z : LawA A L f cd h₀) (hn : h.Ns L m) (base : ∀ b o, h₀.get? b = some o → h.get? b = some o) : Stk h₀ h A [lEnv L f cd] where
  frames := Z.frames
  fun_ := Heap.FunFrames.cons (show (fnScope 5).kind ≠ .module by decide) rfl hn rfl trivial
  new := fun b hb => by
    have : b = L := List.mem_singleton.mp hb
    rw [this]; exact Z.new
  base := base
  hand := Z.hand
  room := Z.room
  units := Z.units

theorem ns_slots {h h' : Heap} {L : Addr} {m : Str → Option Value} (hn : h.Ns L m) (k : ∀ o, h.get? L = some o → ∃ sl, h'.get? L = some { o with slots := sl }) : h'.Ns L m := by
  obtain ⟨o, es, ep, ho, r⟩ := hn
  obtain ⟨sl, e⟩ := k o ho
  exact ⟨_, es, ep, e, r⟩
theorem not_frs {L f : Addr} {cd : Value} {b : Addr} (h : b ≠ L) : b ∉ frs [lEnv L f cd] := fun q => h (List.mem_singleton.mp q)
theorem in_frs {L f : Addr} {cd : Value} : L ∈ frs [lEnv L f cd] := List.mem_singleton.mpr rfl

def keyD : Key → PyData
  | .inl n => .int n
  | .inr x => .str x
def cntD : Cnt → PyData
  | .int i => .int i
  | .bool b => .bool b
  | .str x => .str x
def pairD (kc : Key × Cnt) : PyData := .tuple [keyD kc.1, cntD kc.2]
def tabD (cs : Tab) : PyData := .list (cs.map pairD)

theorem keyD_reads {h : Heap} {k : Key} {v : Value} (x : keyIs k v = true) : Reads h v (keyD k) [] := by
  rcases keyIs_shape x with ⟨n, t, rfl, rfl⟩ | ⟨y, t, rfl, rfl⟩
  · exact .int n t
  · exact .str y t
theorem cntD_reads {h : Heap} {c : Cnt} {v : Value} (x : c.is v) : Reads h v (cntD c) [] := by
  cases c with
  | int i => obtain ⟨t, rfl⟩ := x; exact .int i t
  | bool b => obtain rfl : v = .bool b := x; exact .bool b
  | str y => obtain ⟨t, rfl⟩ := x; exact .str y t
theorem pairs_readsAll {h : Heap} : ∀ {items : List Value} {ps : List (Value × Value)} {cs : Tab}, ps.length = items.length → (∀ (j : Nat) (v : Value) (p : Value × Value), items[j]? = some v → ps[j]? = some p → ∃ T, v = .ref T ∧ h.IsTuple T #[p.1, p.2]) → PAll ps cs →
    ∃ as, ReadsAll h items (cs.map pairD) as
  | [], [], _, _, _, .nil => ⟨_, .nil⟩
  | [], _ :: _, _, e, _, _ => by simp at e
  | _ :: _, [], _, e, _, _ => by simp at e
  | v :: items, p :: ps, _, e, ht, .cons (cs := cs) (k := k) (c := c) a b r => by
    obtain ⟨as, ih⟩ := pairs_readsAll (items := items) (ps := ps) (by simpa using e) (fun j v' p' hv hp => ht (j + 1) v' p' (by simpa using hv) (by simpa using hp)) r
    obtain ⟨T, rfl, o, ho, hc, n, hd⟩ := ht 0 v p rfl rfl
    exact ⟨_, .cons (.tuple ho hc hd (.cons (keyD_reads a) (.cons (cntD_reads b) .nil))) ih⟩
theorem PairsAt.reads {h : Heap} {l : Addr} {cs : Tab} (x : PairsAt h l cs) : ∃ as, Reads h (.ref l) (tabD cs) as := by
  obtain ⟨items, ps, ⟨n, e⟩, h1, h2, h3⟩ := x
  obtain ⟨as, r⟩ := pairs_readsAll h1 h2 h3
  exact ⟨_, .list e rfl rfl (by simpa using r)⟩
theorem eqv_keyD (k : Key) : PyData.eqv (keyD k) (keyD k) = true := by cases k <;> simp [keyD, PyData.eqv]
theorem eqv_cntD (c : Cnt) : PyData.eqv (cntD c) (cntD c) = true := by cases c <;> simp [cntD, PyData.eqv]
theorem eqv_pairs : ∀ cs : Tab, PyData.eqvAll (cs.map pairD) (cs.map pairD) = true
  | [] => rfl
  | kc :: cs => by
    rw [List.map_cons]
    simp only [PyData.eqvAll, pairD, PyData.eqv, eqv_keyD, eqv_cntD, eqv_pairs cs, Bool.and_self]
theorem eqv_tabD (cs : Tab) : PyData.eqv (tabD cs) (tabD cs) = true := eqv_pairs cs
def TabOk (cs : Tab) : Prop := ∀ kc ∈ cs, (keyD kc.1).canLay0 = true ∧ (cntD kc.2).canLay0 = true
def ThOk (ts : List Th) : Prop := ∀ k, Th.key k ∈ ts → (keyD k).canLay0 = true
theorem lay_pairs : ∀ cs : Tab, TabOk cs → PyData.canLayAll0 (cs.map pairD) = true
  | [], _ => rfl
  | kc :: cs, h => by
    obtain ⟨h1, h2⟩ := h kc (.head _)
    rw [List.map_cons]
    simp [PyData.canLayAll0, PyData.canLay0, pairD, h1, h2, lay_pairs cs fun x hx => h x (.tail _ hx)]
theorem lay_tabD {cs : Tab} (h : TabOk cs) : (tabD cs).canLay0 = true := by
  simp only [tabD, PyData.canLay0]; exact lay_pairs cs h
theorem TabOk.counted {cs : Tab} (h : TabOk cs) {ks : List Key} (hk : ∀ k ∈ ks, (keyD k).canLay0 = true) : TabOk (countedOf cs ks) := by
  intro kc hkc
  unfold countedOf at hkc
  rcases List.mem_append.mp hkc with hkc | hkc
  · obtain ⟨x, hx, rfl⟩ := List.mem_map.mp hkc
    refine ⟨(h x hx).1, ?_⟩
    simp only [aftC]
    split
    · rfl
    · exact (h x hx).2
  · obtain ⟨x, hx, rfl⟩ := List.mem_map.mp hkc
    have h1 := hasK_mem.mpr hx
    rw [hasK_newOf] at h1
    simp only [Bool.and_eq_true] at h1
    exact ⟨hk x (hasK_mem.mp h1.2), rfl⟩
theorem TabOk.start (ns : List Int) : TabOk (cs0 ns) := by
  intro kc hkc
  simp only [cs0, List.mem_cons, List.not_mem_nil, or_false] at hkc
  rcases hkc with rfl | rfl | rfl | rfl | rfl
  · exact ⟨rfl, rfl⟩
  · exact ⟨show (keyD (.inr "b")).canLay0 = true by decide +kernel, rfl⟩
  · exact ⟨rfl, rfl⟩
  · exact ⟨rfl, rfl⟩
  · exact ⟨by decide +kernel, by decide +kernel⟩
theorem abc_ok {i : Int} (h0 : 0 ≤ i) (h3 : i < 3) : (keyD (.inr (PySem.Txt.item "abc" i))).canLay0 = true := by
  obtain rfl | rfl | rfl : i = 0 ∨ i = 1 ∨ i = 2 := by omega
  · decide +kernel
  · decide +kernel
  · decide +kernel
theorem thsOk (x : Int) : ThOk (thsOf x) := by
  intro k hk
  have r3 := fmod_range (x.fdiv 8) (n := 3) (by decide)
  simp only [thsOf, List.mem_cons, List.not_mem_nil, or_false, Th.key.injEq, reduceCtorEq] at hk
  rcases hk with rfl | rfl | rfl | rfl | rfl | rfl | rfl
  · rfl
  · rfl
  · exact abc_ok r3.1 r3.2
  · rfl
  · rfl
  · decide +kernel
  · decide +kernel
theorem ThOk.row (xs : List Int) : ThOk (xs.map thOf) := by
  intro k hk
  obtain ⟨x, _, e⟩ := List.mem_map.mp hk
  unfold thOf at e
  cases hc : (thsOf x)[(x.fmod 8).toNat]? with
  | none => rw [hc] at e; cases e
  | some t =>
    rw [hc] at e
    have e' : t = Th.key k := e
    exact thsOk x k (e' ▸ List.mem_of_getElem? hc)
theorem depth_pairs : ∀ cs : Tab, PyData.depthAll (cs.map pairD) ≤ 1
  | [] => by simp [PyData.depthAll]
  | kc :: cs => by
    have h1 : (keyD kc.1).depth = 0 := by cases kc.1 <;> simp [keyD, PyData.depth]
    have h2 : (cntD kc.2).depth = 0 := by cases kc.2 <;> simp [cntD, PyData.depth]
    have := depth_pairs cs
    rw [List.map_cons]
    simp only [PyData.depthAll, pairD, PyData.depth, h1, h2]
    omega
theorem depth_tabD (cs : Tab) : (tabD cs).depth ≤ 2 := by
  have := depth_pairs cs
  simp only [tabD, PyData.depth]
  omega

section
variable {prog : Program} {w : World} {A : Around} {E : Value → Shared → Prop} {s : Shared} {L f : Addr} {cd : Value} {m : Str → Option Value}
theorem ne_tabs {a b : Addr} {cs : Tab} {Q : Value → Shared → Prop} (ha : PairsAt s.heap a cs) (hb : PairsAt s.heap b cs) (ok : TabOk cs) (hu : A.units + 2 < cLine) (h : Q (.bool false) s) : wpAny (model prog w) A (compareOp .NotEq (.ref a) (.ref b)) Q E s := by
  obtain ⟨as, ra⟩ := ha.reads
  obtain ⟨bs, rb⟩ := hb.reads
  refine compareNe_reads ra rb (lay_tabD ok) (lay_tabD ok) ?_ ?_
  · have := depth_tabD cs; omega
  · rw [eqv_tabD]; exact h
theorem eq_tabs {a b : Addr} {cs : Tab} {Q : Value → Shared → Prop} (ha : PairsAt s.heap a cs) (hb : PairsAt s.heap b cs) (ok : TabOk cs) (hu : A.units + 2 < cLine) (h : Q (.bool true) s) : wpAny (model prog w) A (compareOp .Eq (.ref a) (.ref b)) Q E s := by
  obtain ⟨as, ra⟩ := ha.reads
  obtain ⟨bs, rb⟩ := hb.reads
  refine compareEq_reads ra rb (lay_tabD ok) (lay_tabD ok) ?_ ?_
  · have := depth_tabD cs; omega
  · rw [eqv_tabD]; exact h

/-- the row's tail -/
theorem eval_from {R : Addr} {items : List Value} {σ : Nat} {u : Tok} {p1 p2 p3 p4 : Pos} {Q : Value → Shared → Prop} (hn : s.heap.Ns L m) (hm1 : m "row" = some (.ref R)) (hm2 : m "start" = some (.int (σ : Nat) u)) (hR : s.heap.PlainList R items.toArray) (hσ : σ ≤ items.length) (hsz : items.length ≤ 1000)
    (h : ∀ h' l, h'.PlainList l (items.drop σ).toArray → (∀ b o, s.heap.get? b = some o → h'.get? b = some o) → Q (.ref l) { s with heap := h' }) :
    wpAny (model prog w) A (eval (.Subscript (.Name "row" p1) (.Slice (some (.Name "start" p2)) none none p3) p4) (lEnv L f cd)) Q E s := by
  refine wpAny_Subscript_list_slice ?_
  refine ldL hn hm1 ?_
  refine wpAny_evalPart_some ?_
  refine ldL hn hm2 ?_
  refine wpAny_evalPart_none ?_
  refine ⟨R, items.toArray, some (σ : Nat), none, rfl, hR.isList, by rw [sizeLine_eq, List.size_toArray]; omega, .int _ _, .none, ?_⟩
  rw [slicePick_from _ _ (by rw [List.size_toArray]; exact hσ)]
  refine h _ _ ⟨0, ?_⟩ fun b o e => Heap.get?_push_of_some _ (Heap.get?_push_of_some _ e)
  have e1 := Heap.get?_push_size (s.heap.push { cls := .type "slice", data := .fields #[.int (σ : Nat) u, .none, .none] }) (o := { cls := .type "list", data := .seq (items.toArray.toList.drop σ).toArray }) rfl
  rw [Heap.size_push] at e1
  exact e1
/-- a run of the row -/
theorem eval_run {R : Addr} {items : List Value} {σ e : Nat} {u u2 : Tok} {p1 p2 p3 p4 p5 : Pos} {Q : Value → Shared → Prop} (hn : s.heap.Ns L m) (hm1 : m "row" = some (.ref R)) (hm2 : m "start" = some (.int (σ : Nat) u)) (hm3 : m "end" = some (.int (e : Nat) u2)) (hR : s.heap.PlainList R items.toArray) (hσ : σ ≤ e) (he : e ≤ items.length) (hsz : items.length ≤ 1000)
    (h : ∀ h' l, h'.PlainList l ((items.drop σ).take (e - σ)).toArray → (∀ b o, s.heap.get? b = some o → h'.get? b = some o) → Q (.ref l) { s with heap := h' }) :
    wpAny (model prog w) A (eval (.Subscript (.Name "row" p1) (.Slice (some (.Name "start" p2)) (some (.Name "end" p5)) none p3) p4) (lEnv L f cd)) Q E s := by
  refine wpAny_Subscript_list_slice ?_
  refine ldL hn hm1 ?_
  refine wpAny_evalPart_some ?_
  refine ldL hn hm2 ?_
  refine wpAny_evalPart_some ?_
  refine ldL hn hm3 ?_
  refine ⟨R, items.toArray, some (σ : Nat), some (e : Nat), rfl, hR.isList, by rw [sizeLine_eq, List.size_toArray]; omega, .int _ _, .int _ _, ?_⟩
  rw [slicePick_run _ _ _ (by rw [List.size_toArray]; exact he) hσ]
  refine h _ _ ⟨0, ?_⟩ fun b o e => Heap.get?_push_of_some _ (Heap.get?_push_of_some _ e)
  have e1 := Heap.get?_push_size (s.heap.push { cls := .type "slice", data := .fields #[.int (σ : Nat) u, .int (e : Nat) u2, .none] }) (o := { cls := .type "list", data := .seq ((items.toArray.toList.drop σ).take (e - σ)).toArray }) rfl
  rw [Heap.size_push] at e1
  exact e1
end
end Mine

namespace Mine
open PySem.SeqAt

def mainLoopBody : List Stmt := match ((fnBody 5)[6]? : Option Stmt) with
  | some (Stmt.For _ _ b _ _) => b
  | _ => []

theorem ThAll.drop {h : Heap} {vs : List Value} {ts : List Th} (x : ThAll h vs ts) : ∀ n, ThAll h (vs.drop n) (ts.drop n) := by
  induction x with
  | nil => intro n; simp; exact .nil
  | cons a r ih =>
    intro n
    cases n with
    | zero => exact .cons a r
    | succ n => simpa using ih n
theorem ThAll.keys {h : Heap} : ∀ {vs : List Value} {ks : List Key} {rest : List Th}, ThAll h vs (ks.map .key ++ rest) → KAll (vs.take ks.length) ks
  | _, [], _, _ => by simp; exact .nil
  | _, k :: ks, _, .cons a r => by
    cases a with
    | key hk => simpa using KAll.cons hk (ThAll.keys r)

section
variable {prog : Program} {w : World} {A : Around} {E : Value → Shared → Prop} {s : Shared} {Q : Flow → Shared → Prop} {L f R P d : Addr} {cd : Value} {m : Str → Option Value} {X : Fns} {h₀ : Heap} {items : List Value} {ts : List Th} {σ e : Nat} {u u2 : Tok} {cs : Tab} {kvs : List (Key × Value)} {ks : List Key} {rest : List Th}

theorem ne_told {v v2 : Value} {b : Bool} {tk : Nat} {u : Tok} {Q : Value → Shared → Prop} (hu : A.units < cLine) (hv : v = if b then Value.none else .str "refused" tk) (hv2 : v2 = if b then Value.none else .str "refused" u) (h : Q (.bool false) s) : wpAny (model prog w) A (compareOp .NotEq v v2) Q E s := by
  cases b with
  | true =>
    rw [hv, hv2]
    refine compareNe_reads (da := .none) (db := .none) .none .none rfl rfl ?_ h
    simp only [PyData.depth]; omega
  | false =>
    rw [hv, hv2]
    refine compareNe_reads (da := .str "refused") (db := .str "refused") (.str _ _) (.str _ _) (by decide +kernel) (by decide +kernel) ?_ ?_
    · simp only [PyData.depth]; omega
    · have : PyData.eqv (.str "refused") (.str "refused") = true := by simp [PyData.eqv]
      rw [this]; exact h

set_option maxHeartbeats 1000000 in
theorem main_turn (W : Wd h₀ X) (Z : LawA A L f cd h₀) (base : ∀ b o, h₀.get? b = some o → s.heap.get? b = some o) (hdn : h₀.get? d = none) (hmod : (d == sysModules) = false) (hdL : d ≠ L)
    (hn : s.heap.Ns L m) (hm1 : m "row" = some (.ref R)) (hm2 : m "tally" = some (.ref d)) (hm3 : m "pairs" = some (.ref P)) (hm4 : m "start" = some (.int (σ : Nat) u)) (hm5 : m "end" = some (.int (e : Nat) u2))
    (hR : s.heap.PlainList R items.toArray) (hth : ThAll s.heap items ts) (hD : s.heap.DictOf (mixKind prog w) d kvs) (hT : TabIs kvs cs) (hP : PairsAt s.heap P cs) (G : TabGood cs) (ok : TabOk cs) (tok : ThOk ts) (hts : ts.length ≤ 200) (hcs : cs.length ≤ 300)
    (hσ : σ ≤ ts.length) (he : e ≤ ts.length) (hek : e = σ + ks.length) (hseg : ts.drop σ = ks.map .key ++ rest) (hf : hasK ks fullK = false) (hrest : rest = [] ∨ ∃ t r, rest = t :: r ∧ stopT t = true) (hlast : decide (e < ts.length) = !rest.isEmpty)
    (h : ∀ h' tk m' P' u' kvs', h'.Ns L m' → m' "row" = some (.ref R) → m' "tally" = some (.ref d) → m' "pairs" = some (.ref P') → m' "start" = some (.int ((e + 1 : Nat) : Int) u') → h'.DictOf (mixKind prog w) d kvs' → TabIs kvs' (countedOf cs ks) → PairsAt h' P' (countedOf cs ks) →
      (∀ b o, b ≠ L → b ≠ d → s.heap.get? b = some o → h'.get? b = some o) → Q .next { s with heap := h', toks := tk }) :
    wpAny (model prog w) A (execs mainLoopBody (lEnv L f cd)) Q E s := by
  have hlen := hth.length
  have hu := Z.units
  have W₀ := W.keeps base
  obtain ⟨ot, doct, pmt, ctt, ant, hot, hdt⟩ := W.ft.there
  obtain ⟨on, docn, pmn, ctn, ann, hon, hdn'⟩ := W.fn.there
  refine wpAny_execs_cons ?_
  refine wpAny_If ?_
  refine wpAny_isTrue_Compare1 ?_
  refine wpAny_Call_NameR ?_
  refine ldT (X := X) W₀ ?_
  refine Calls.callWith_function (o := ot) (fd := fnOf "_law_told" "_law_told" (fnParams 3) (fnBody 3) (fnScope 3) .none .none doct pmt ant X.tc ctt) ?_
  refine Calls.evalArgs_plain ?_
  refine Calls.spliced_cons ?_
  refine ldL hn hm2 ?_
  refine Calls.spliced_cons ?_
  refine eval_from hn hm1 hm4 hR (by omega) (by omega) fun h₁ l₁ hl₁ k₁ => ?_
  refine Calls.spliced_nil ?_
  refine ⟨⟨k₁ _ _ (base _ _ hot), hdt⟩, ?_⟩
  have hn₁ := hn.keeps k₁
  refine told_call (s := { s with heap := h₁ }) (fr := [lEnv L f cd]) (d := d) (l := l₁) (vs := items.drop σ) (ts := ts.drop σ) (cs := cs) (kvs := kvs) W (Z.stk hn₁ fun b o e => k₁ b o (base b o e)) hdn (not_frs hdL) hmod (by rw [List.length_drop]; omega) (dictOf_keeps hD k₁) hT hl₁.isList ((hth.kept (SeqKept.of_keeps k₁)).drop σ) ?_
  intro h₂ tk₂ cs₂ ok₂ v₂ hrun hv₂ hdict₂ hk₂ hsl₂
  rw [hseg, G.run hf rest hrest] at hrun
  obtain ⟨rfl, rfl⟩ := Prod.mk.inj hrun
  obtain ⟨kvs₂, hD₂, hT₂⟩ := hdict₂
  have k₂ : ∀ b o, b ≠ L → b ≠ d → s.heap.get? b = some o → h₂.get? b = some o := fun b o h1 h2 e => hk₂ b o (not_frs h1) h2 (k₁ b o e)
  have hn₂ : h₂.Ns L m := ns_slots hn₁ fun o e => hsl₂ L o in_frs e
  have base₂ : ∀ b o, h₀.get? b = some o → h₂.get? b = some o := fun b o e => k₂ b o (fun q => by rw [q, Z.new] at e; cases e) (fun q => by rw [q, hdn] at e; cases e) (base b o e)
  have W₂ := W.keeps base₂
  have neR : R ≠ L ∧ R ≠ d := by
    obtain ⟨n, e⟩ := hR
    exact ⟨ns_not_seq hn e rfl, dict_not_seq hD e rfl⟩
  have hR₂ : h₂.PlainList R items.toArray := by obtain ⟨n, e⟩ := hR; exact ⟨n, k₂ R _ neR.1 neR.2 e⟩
  have sk₂ : SeqKept s.heap h₂ := fun b o xs n ho hd => k₂ b o (ns_not_seq hn ho hd) (dict_not_seq hD ho hd) ho
  have hP₂ : PairsAt h₂ P cs := hP.kept sk₂
  refine wpAny_IfExp ?_
  refine wpAny_isTrue_Compare1 ?_
  refine ldL (s := { s with heap := h₂, toks := _ }) hn₂ hm5 ?_
  refine wpAny_Call_NameR ?_
  refine ldB (s := { s with heap := h₂, toks := _ }) (X := X) W₂ (v := .builtin "len") (by decide) ?_
  refine PyProof.Rows.callWith_builtin1 ?_
  refine args_cons ?_
  refine ldL (s := { s with heap := h₂, toks := _ }) hn₂ hm1 ?_
  refine args_nil ?_
  refine len_list (s := { s with heap := h₂, toks := _ }) hR₂.isList (by rw [List.size_toArray]; omega) ?_
  refine wpAny_lt_int ?_
  refine wpAny_truthy_bool ?_
  have hdec : decide (((e : Nat) : Int) < ((items.toArray.size : Nat) : Int)) = !rest.isEmpty := by
    rw [← hlast, List.size_toArray, hlen]
    by_cases q : e < ts.length
    · have : ((e : Nat) : Int) < ((ts.length : Nat) : Int) := by omega
      simp [q]
    · have : ¬ ((e : Nat) : Int) < ((ts.length : Nat) : Int) := by omega
      simp [q]
  rw [hdec]
  have next : ∀ tk, wpAny (model prog w) A (execs (mainLoopBody.drop 1) (lEnv L f cd)) Q E { s with heap := h₂, toks := tk } := fun tk => by
    have hcl := countedOf_length cs ks
    have hkl : ks.length ≤ ts.length := by omega
    refine wpAny_execs_cons ?_
    refine wpAny_Assign_Name ?_
    refine wpAny_Call_NameR ?_
    refine ldN (s := { s with heap := h₂, toks := _ }) (X := X) W₂ ?_
    refine Calls.callWith_function (o := on) (fd := fnOf "_law_counted" "_law_counted" (fnParams 4) (fnBody 4) (fnScope 4) .none .none docn pmn ann X.nc ctn) ?_
    refine Calls.evalArgs_plain ?_
    refine Calls.spliced_cons ?_
    refine ldL (s := { s with heap := h₂, toks := _ }) hn₂ hm3 ?_
    refine Calls.spliced_cons ?_
    refine eval_run (s := { s with heap := h₂, toks := _ }) (e := e) hn₂ hm1 hm4 hm5 hR₂ (by omega) (by omega) (by omega) fun h₃ l₃ hl₃ k₃ => ?_
    refine Calls.spliced_nil ?_
    refine ⟨⟨k₃ _ _ (base₂ _ _ hon), hdn'⟩, ?_⟩
    have hn₃ := hn₂.keeps k₃
    have hke : e - σ = ks.length := by omega
    have hK₃ : KeysAt h₃ l₃ ks := by
      have h1 := hth.drop σ
      rw [hseg] at h1
      refine ⟨(items.drop σ).take (e - σ), hl₃, ?_⟩
      rw [hke]; exact h1.keys
    refine counted_call (s := { s with heap := h₃, toks := tk }) (X := X) (cs := cs) (ks := ks) (W₂.keeps k₃) Z.hand (by have := Z.room; omega) (hP₂.kept (SeqKept.of_keeps k₃)) hK₃ (by omega) (by omega) (G.plain hf) fun h₄ tk₄ D₄ hP₄ k₄ => ?_
    have hn₄ := hn₃.keeps k₄
    refine stL (s := { s with heap := h₄, toks := _ }) hn₄ fun h₅ hn₅ hs₅ => ?_
    have k₅ : ∀ b o, b ≠ L → h₂.get? b = some o → h₅.get? b = some o := fun b o hb e => (hs₅.2 b hb).trans (k₄ b o (k₃ b o e))
    have sk₅ : SeqKept h₄ h₅ := sub_seq hs₅ fun b o xs n ho hd => ns_not_seq hn₄ ho hd
    have hP₅ := hP₄.kept sk₅
    have base₅ : ∀ b o, h₀.get? b = some o → h₅.get? b = some o := fun b o e => k₅ b o (fun q => by rw [q, Z.new] at e; cases e) (base₂ b o e)
    have hD₅ : h₅.DictOf (mixKind prog w) d kvs₂ := by obtain ⟨o, es, ep, ho, r⟩ := hD₂; exact ⟨o, es, ep, k₅ d o hdL ho, r⟩
    refine wpAny_execs_cons ?_
    refine wpAny_If ?_
    refine wpAny_isTrue_Compare1 ?_
    refine eval_items (s := { s with heap := h₅, toks := _ }) (X := X) (d := d) (kvs := kvs₂) (cs := countedOf cs ks) (W.keeps base₅) Z.hand hn₅ hm2 hmod hD₅ hT₂ (by omega) fun h₆ tk₆ l₆ hP₆ k₆ => ?_
    have hn₆ := hn₅.keeps k₆
    refine ldL (s := { s with heap := h₆, toks := _ }) hn₆ rfl ?_
    have tk' : TabOk (countedOf cs ks) := ok.counted fun k hk => tok k (List.mem_of_mem_drop (i := σ) (by rw [hseg]; exact List.mem_append_left _ (List.mem_map_of_mem hk)))
    refine ne_tabs (s := { s with heap := h₆, toks := _ }) hP₆ (hP₅.kept (SeqKept.of_keeps k₆)) tk' (by omega) ?_
    refine wpAny_truthy_bool ?_
    rw [if_neg (by decide)]
    refine wpAny_execs_nil ?_
    refine wpAny_execs_cons ?_
    refine wpAny_Assign_Name ?_
    refine wpAny_BinOp ?_
    refine ldL (s := { s with heap := h₆, toks := _ }) hn₆ hm5 ?_
    refine wpAny_Constant_int ?_
    refine wpAny_add_int ?_
    refine stL (s := { s with heap := h₆, toks := _ }) hn₆ fun h₇ hn₇ hs₇ => ?_
    have sk₇ : SeqKept h₆ h₇ := sub_seq hs₇ fun b o xs n ho hd => ns_not_seq hn₆ ho hd
    refine wpAny_execs_nil ?_
    refine h h₇ _ _ D₄ _ kvs₂ hn₇ hm1 hm2 rfl rfl ?_ hT₂ ((hP₅.kept (SeqKept.of_keeps k₆)).kept sk₇) fun b o h1 h2 e => (hs₇.2 b h1).trans (k₆ b o (k₅ b o h1 (k₂ b o h1 h2 e)))
    obtain ⟨o, es, ep, ho, r⟩ := hD₅
    exact ⟨o, es, ep, (hs₇.2 d hdL).trans (k₆ d o ho), r⟩
  cases hre : rest.isEmpty with
  | true =>
    rw [if_neg (by decide)]
    refine wpAny_Constant_none ?_
    rw [hre] at hv₂
    refine ne_told (b := true) (u := 0) (by show A.units < cLine; omega) hv₂ rfl ?_
    refine wpAny_truthy_bool ?_
    rw [if_neg (by decide)]
    exact wpAny_execs_nil (next _)
  | false =>
    rw [if_pos (by decide)]
    refine wpAny_Constant_str ?_
    rw [hre] at hv₂
    refine ne_told (b := false) (by show A.units < cLine; omega) hv₂ rfl ?_
    refine wpAny_truthy_bool ?_
    rw [if_neg (by decide)]
    exact wpAny_execs_nil (next _)
end
end Mine

namespace Mine
open PySem.SeqAt

def allEnds (ts : List Th) : List Nat := endsOf ts ++ [ts.length]

/-- the law's main state: the dict and the pairs hold the same table -/
structure TallyAt (prog : Program) (w : World) (L R d : Addr) (ts : List Th) (h' : Heap) (m : Str → Option Value) (P : Addr) (cs : Tab) (kvs : List (Key × Value)) : Prop where
  ns : h'.Ns L m
  row : m "row" = some (.ref R)
  tally : m "tally" = some (.ref d)
  pairs : m "pairs" = some (.ref P)
  dict : h'.DictOf (mixKind prog w) d kvs
  tab : TabIs kvs cs
  pats : PairsAt h' P cs
  good : TabGood cs
  ok : TabOk cs

structure MainAt (prog : Program) (w : World) (s : Shared) (L I l R d : Addr) (els : List Value) (ts : List Th) (i : Nat) (h' : Heap) : Prop where
  iter : h'.IsListIter I l i
  lst : h'.IsList l els.toArray
  loc : ∃ m P σ u cs kvs, TallyAt prog w L R d ts h' m P cs kvs ∧ m "start" = some (.int ((σ : Nat) : Int) u) ∧ cs.length ≤ 5 + σ ∧ σ ≤ ts.length + 1 ∧ ((σ ≤ ts.length ∧ (allEnds ts).drop i = endsFrom σ (ts.drop σ) ++ [ts.length]) ∨ (allEnds ts).drop i = [])
  keep : ∀ b o, b ≠ L → b ≠ I → b ≠ d → s.heap.get? b = some o → h'.get? b = some o

section
variable {prog : Program} {w : World} {A : Around} {E : Value → Shared → Prop} {s : Shared} {Q : Flow → Shared → Prop} {L f R P d I l : Addr} {cd : Value} {m : Str → Option Value} {X : Fns} {h₀ : Heap} {items els : List Value} {ts : List Th} {cs : Tab} {kvs : List (Key × Value)}

set_option maxHeartbeats 1000000 in
theorem main_loop {Rr : Result → Shared → Prop} {px : Pos} (W : Wd h₀ X) (Z : LawA A L f cd h₀) (base : ∀ b o, h₀.get? b = some o → s.heap.get? b = some o) (hIn : h₀.get? I = none) (hdn : h₀.get? d = none) (hmod : (d == sysModules) = false) (hdL : d ≠ L)
    (hR : s.heap.PlainList R items.toArray) (hth : ThAll s.heap items ts) (tok : ThOk ts) (hts : ts.length ≤ 200) (hI : IntsAre els ((allEnds ts).map fun i => ((i : Nat) : Int)))
    (C : MainAt prog w s L I l R d els ts 0 s.heap)
    (fin : ∀ h' tk m' P' cs' kvs', TallyAt prog w L R d ts h' m' P' cs' kvs' → cs'.length ≤ 300 → (∀ b o, b ≠ L → b ≠ I → b ≠ d → s.heap.get? b = some o → h'.get? b = some o) → Rr (.ok .next) { s with heap := h', toks := tk }) :
    codeAny (model prog w) A (.forLoop (.Name "end" px) (.ref I) mainLoopBody [] (lEnv L f cd)) Rr s := by
  have hElen := hI.length
  rw [List.length_map] at hElen
  refine codeAny_forLoop (fun k s' => ∃ h' tk i, s' = { s with heap := h', toks := tk } ∧ MainAt prog w s L I l R d els ts i h' ∧ i ≤ (allEnds ts).length ∧ k = (allEnds ts).length + 1 - i) ?_ ((allEnds ts).length + 1)
    ⟨s.heap, s.toks, 0, rfl, C, Nat.zero_le _, rfl⟩
  have seqR : ∀ b o xs n, s.heap.get? b = some o → o.data = .seq xs n → b ≠ L ∧ b ≠ I ∧ b ≠ d := fun b o xs n ho hd => by
    obtain ⟨m, P, σ, u, cs, kvs, T, _⟩ := C.loc
    exact ⟨ns_not_seq T.ns ho hd, iter_not_seq C.iter ho hd, dict_not_seq T.dict ho hd⟩
  rintro k s' ⟨h, tk, i, rfl, C₁, hi, rfl⟩
  obtain ⟨m, P, σ, u, cs, kvs, T, hst, hcl, hσ1, hends⟩ := C₁.loc
  have neLI := ns_not_iter T.ns C₁.iter
  have nedI := dict_not_iter T.dict C₁.iter
  have nel : l ≠ L ∧ l ≠ I ∧ l ≠ d := by obtain ⟨o, e, _, n, hd⟩ := C₁.lst; exact ⟨ns_not_seq T.ns e hd, iter_not_seq C₁.iter e hd, dict_not_seq T.dict e hd⟩
  by_cases hlt : i < (allEnds ts).length
  · obtain ⟨t, ht⟩ := hI.get i (((allEnds ts)[i] : Nat) : Int) (by simp [hlt])
    have hdrop : (allEnds ts).drop i = (allEnds ts)[i] :: (allEnds ts).drop (i + 1) := List.drop_eq_getElem_cons hlt
    rcases hends with ⟨hσ, hends⟩ | hends
    · rw [hdrop] at hends
      obtain ⟨ks, rest, hseg, hf, hek, hele, hrest, hlast, hnext⟩ := seg hσ hends
      refine wpAny_pyNext_list_item C₁.iter C₁.lst (by simpa using ht) fun h₁ hit₁ hs₁ => ?_
      have hn₁ : h₁.Ns L m := T.ns.sameBut hs₁ neLI
      refine wpAny_assign_Name (stL hn₁ fun h₂ hn₂ hs₂ => ?_)
      have k₂ : ∀ b o, b ≠ L → b ≠ I → h.get? b = some o → h₂.get? b = some o := fun b o h1 h2 e => (hs₂.2 b h1).trans ((hs₁.2 b h2).trans e)
      have s₂ : ∀ b o, b ≠ L → b ≠ I → b ≠ d → s.heap.get? b = some o → h₂.get? b = some o := fun b o h1 h2 h3 e => k₂ b o h1 h2 (C₁.keep b o h1 h2 h3 e)
      have base₂ : ∀ b o, h₀.get? b = some o → h₂.get? b = some o := fun b o e => s₂ b o (fun q => by rw [q, Z.new] at e; cases e) (fun q => by rw [q, hIn] at e; cases e) (fun q => by rw [q, hdn] at e; cases e) (base b o e)
      have sks : SeqKept s.heap h₂ := fun b o xs n ho hd => let ⟨a, b', c⟩ := seqR b o xs n ho hd; s₂ b o a b' c ho
      have skh : SeqKept h h₂ := fun b o xs n ho hd => k₂ b o (ns_not_seq T.ns ho hd) (iter_not_seq C₁.iter ho hd) ho
      have hD₂ : h₂.DictOf (mixKind prog w) d kvs := by obtain ⟨o, es, ep, ho, r⟩ := T.dict; exact ⟨o, es, ep, k₂ d o hdL nedI ho, r⟩
      refine main_turn (s := { s with heap := h₂, toks := _ }) (σ := σ) (e := (allEnds ts)[i]) (ks := ks) (rest := rest) (P := P) (R := R) (d := d) (items := items) W Z base₂ hdn hmod hdL hn₂ T.row T.tally T.pairs hst rfl (plain_kept sks hR) (hth.kept sks) hD₂ T.tab (T.pats.kept skh) T.good T.ok tok hts (by omega) hσ hele hek hseg hf hrest hlast ?_
      intro h₃ tk₃ m₃ P₃ u₃ kvs₃ hn₃ hr₃ ht₃ hp₃ hs₃ hD₃ hT₃ hP₃ hk₃
      have k₃ : ∀ b o, b ≠ L → b ≠ I → b ≠ d → h.get? b = some o → h₃.get? b = some o := fun b o h1 h2 h3 e => hk₃ b o h1 h3 (k₂ b o h1 h2 e)
      have hcl₃ := countedOf_length cs ks
      refine ⟨(allEnds ts).length + 1 - (i + 1), by omega, h₃, tk₃, i + 1, rfl, ?_, hlt, rfl⟩
      refine ⟨?_, ?_, ⟨m₃, P₃, (allEnds ts)[i] + 1, u₃, countedOf cs ks, kvs₃, ⟨hn₃, hr₃, ht₃, hp₃, hD₃, hT₃, hP₃, T.good.counted hf, T.ok.counted fun k hk => tok k (List.mem_of_mem_drop (i := σ) (by rw [hseg]; exact List.mem_append_left _ (List.mem_map_of_mem hk)))⟩, hs₃, by omega, by omega, ?_⟩, fun b o h1 h2 h3 e => k₃ b o h1 h2 h3 (C₁.keep b o h1 h2 h3 e)⟩
      · obtain ⟨o, a, b⟩ := hit₁
        exact ⟨o, hk₃ I o (Ne.symm neLI) (Ne.symm nedI) ((hs₂.2 I (Ne.symm neLI)).trans a), b⟩
      · obtain ⟨o, a, b⟩ := C₁.lst
        exact ⟨o, k₃ l o nel.1 nel.2.1 nel.2.2 a, b⟩
      · rcases hnext with hnext | ⟨h1, h2⟩
        · exact .inr hnext
        · exact .inl ⟨h1, h2⟩
    · rw [hdrop] at hends; cases hends
  · have hin : i = (allEnds ts).length := by omega
    subst hin
    refine wpAny_pyNext_list_end Z.hand C₁.iter C₁.lst (by simp [hElen]) fun h₁ hs₁ => wpAny_execs_nil ?_
    have k₁ : ∀ b o, b ≠ I → h.get? b = some o → h₁.get? b = some o := fun b o hb e => hs₁ b o hb e
    refine fin h₁ _ m P cs kvs ⟨T.ns.extBut hs₁ neLI, T.row, T.tally, T.pairs, ?_, T.tab, T.pats.kept fun b o xs n ho hd => k₁ b o (iter_not_seq C₁.iter ho hd) ho, T.good, T.ok⟩ (by omega) fun b o h1 h2 h3 e => k₁ b o h2 (C₁.keep b o h1 h2 h3 e)
    obtain ⟨o, es, ep, ho, r⟩ := T.dict
    exact ⟨o, es, ep, k₁ d o nedI ho, r⟩
end
end Mine

namespace Mine
open PySem.SeqAt

section
variable {prog : Program} {w : World} {A : Around} {E : Value → Shared → Prop} {s : Shared} {Q : Flow → Shared → Prop} {L f R P d De : Addr} {cd : Value} {m : Str → Option Value} {X : Fns} {h₀ : Heap} {items es : List Value} {ts : List Th} {cs : Tab} {kvs : List (Key × Value)}

set_option maxHeartbeats 1000000 in
theorem law56 (W : Wd h₀ X) (Z : LawA A L f cd h₀) (base : ∀ b o, h₀.get? b = some o → s.heap.get? b = some o) (hdn : h₀.get? d = none) (hmod : (d == sysModules) = false) (hdL : d ≠ L)
    (T : TallyAt prog w L R d ts s.heap m P cs kvs) (hcl : cs.length ≤ 5) (hm : m "ends" = some (.ref De)) (hR : s.heap.PlainList R items.toArray) (hth : ThAll s.heap items ts) (tok : ThOk ts) (hts : ts.length ≤ 200)
    (hE : s.heap.PlainList De es.toArray) (hI : IntsAre es ((endsOf ts).map fun i => ((i : Nat) : Int)))
    (h : ∀ h' tk m' P' cs' kvs', TallyAt prog w L R d ts h' m' P' cs' kvs' → cs'.length ≤ 300 → (∀ b o, b ≠ L → b ≠ d → s.heap.get? b = some o → h'.get? b = some o) →
      wpAny (model prog w) A (execs ((fnBody 5).drop 7) (lEnv L f cd)) Q E { s with heap := h', toks := tk }) :
    wpAny (model prog w) A (execs ((fnBody 5).drop 5) (lEnv L f cd)) Q E s := by
  have hlen := hth.length
  have hlenE := hI.length
  rw [List.length_map] at hlenE
  have hle : (endsOf ts).length ≤ ts.length := by
    unfold endsOf
    refine Nat.le_trans (List.length_filter_le _ _) ?_
    rw [List.length_range]; exact Nat.le_refl _
  refine wpAny_execs_cons ?_
  refine wpAny_Assign_Name ?_
  refine wpAny_Constant_int ?_
  refine stL (s := { s with toks := _ }) T.ns fun h₁ hn₁ hs₁ => ?_
  have k₁ : ∀ b o, b ≠ L → s.heap.get? b = some o → h₁.get? b = some o := fun b o hb e => (hs₁.2 b hb).trans e
  have sk₁ : SeqKept s.heap h₁ := sub_seq hs₁ fun b o xs n ho hd => ns_not_seq T.ns ho hd
  have base₁ : ∀ b o, h₀.get? b = some o → h₁.get? b = some o := fun b o e => k₁ b o (fun q => by rw [q, Z.new] at e; cases e) (base b o e)
  have hR₁ := plain_kept sk₁ hR
  refine wpAny_execs_cons ?_
  refine wpAny_For ?_
  refine wpAny_BinOp ?_
  refine ldL (s := { s with heap := h₁, toks := _ }) hn₁ hm ?_
  refine List_ ?_
  refine args_cons ?_
  refine wpAny_Call_NameR ?_
  refine ldB (s := { s with heap := h₁, toks := _ }) (X := X) (W.keeps base₁) (v := .builtin "len") (by decide) ?_
  refine PyProof.Rows.callWith_builtin1 ?_
  refine args_cons ?_
  refine ldL (s := { s with heap := h₁, toks := _ }) hn₁ T.row ?_
  refine args_nil ?_
  refine len_list (s := { s with heap := h₁, toks := _ }) hR₁.isList (by rw [List.size_toArray]; omega) ?_
  refine args_nil ?_
  refine newList_as (P := fun V => IntsAre V [((ts.length : Nat) : Int)]) ?_ (by rw [sizeLine_eq]; exact Nat.le_of_ble_eq_true rfl) fun V h₂ hVI hV₂ hz₂ k₂ => ?_
  · rw [← hlen, ← List.size_toArray]; exact .cons _ _ .nil
  have hVl := hVI.length
  dsimp only at hz₂ k₂
  have hVl' : V.length = 1 := hVl
  refine add_any (s := { s with heap := h₂, toks := _ }) (vs := es) (ws := V) (plain_kept (SeqKept.of_keeps k₂) (plain_kept sk₁ hE)).isList hV₂.isList (by omega) fun h₃ hl₃ hz₃ k₃ => ?_
  dsimp only at hz₃ k₃
  refine wpAny_pyIter_list hl₃.isList ?_
  have k₄ : ∀ b o, h₁.get? b = some o → (h₃.push { cls := .type "list_iterator", data := .fields #[.ref h₂.objs.size, .int 0 0] }).get? b = some o := fun b o e => Heap.get?_push_of_some _ (k₃ b o (k₂ b o e))
  have hall : IntsAre (es ++ V) ((allEnds ts).map fun i => ((i : Nat) : Int)) := by
    have := hI.append hVI
    simpa [allEnds] using this
  have hsz1 : h₁.objs.size = s.heap.objs.size := hs₁.1
  have hneI : ∀ b o, s.heap.get? b = some o → b ≠ h₃.objs.size := fun b o e => by
    have h1 := Heap.lt_size e
    rw [hz₃, hz₂, hsz1]
    exact Nat.ne_of_lt (Nat.lt_succ_of_lt (Nat.lt_succ_of_lt h1))
  have hIn : h₀.get? h₃.objs.size = none := by
    cases q : h₀.get? h₃.objs.size with
    | none => rfl
    | some o => exact absurd rfl (hneI _ o (base _ o q))
  refine main_loop (I := h₃.objs.size) (R := R) (l := h₂.objs.size) (els := es ++ V) (ts := ts) (items := items) W Z (fun b o e => k₄ b o (base₁ b o e)) hIn hdn hmod hdL (plain_kept (SeqKept.of_keeps k₄) hR₁) ((hth.kept sk₁).kept (SeqKept.of_keeps k₄)) tok hts hall
    ⟨⟨_, Heap.get?_push_size _ rfl, rfl, rfl⟩, hl₃.isList.push _, ⟨_, P, 0, _, cs, kvs, ⟨hn₁.keeps k₄, T.row, T.tally, T.pairs, ?_, T.tab, (T.pats.kept sk₁).kept (SeqKept.of_keeps k₄), T.good, T.ok⟩, rfl, hcl, Nat.zero_le _, .inl ⟨Nat.zero_le _, ?_⟩⟩, fun b o _ _ _ e => e⟩ fun h₅ tk₅ m₅ P₅ cs₅ kvs₅ T₅ hcl₅ hk₅ => ?_
  · obtain ⟨o, es, ep, ho, r⟩ := T.dict
    exact ⟨o, es, ep, k₄ d o (k₁ d o hdL ho), r⟩
  · rw [List.drop_zero, List.drop_zero, allEnds, endsOf_eq]
  · exact h h₅ tk₅ m₅ P₅ cs₅ kvs₅ T₅ hcl₅ fun b o h1 h2 e => hk₅ b o h1 (hneI b o e) h2 (k₄ b o (k₁ b o h1 e))
end
end Mine

namespace Mine
open PySem.SeqAt

section
variable {prog : Program} {w : World} {A : Around} {scope : Scope} {cl : List (Str × Addr)} {env : Env} {lim : Nat}
theorem draws_values {x : Str} {px : Pos} {I d : Addr} {kvs : List (Key × Value)} {ep : Nat} (hh : A.handled = none) (hx : scope.names.lookup x = some .local) (hk : scope.kind = .function) (hI : I < lim) (hl : d < lim) (hId : d ≠ I) :
    Draws prog w A scope cl env (.Name x px) (.ref I) [I] lim kvs.length (fun i h => h.IsValIter I d i kvs.length ep ∧ h.DictAt (mixKind prog w) d kvs ep) (fun i m => ∃ k v, kvs[i]? = some (k, v) ∧ m x = some v) where
  frame := fun i h h' st k => ⟨st.1.at fun o e => k I o hI e, st.2.at' fun o e => k d o hl e⟩
  fpLt := fun b hb => by rw [List.mem_singleton.mp hb]; exact hI
  noTup := fun i h b o st hb ho hc => by
    rw [List.mem_singleton.mp hb] at ho
    obtain ⟨⟨o', h1, h2, _⟩, _⟩ := st
    rw [ho] at h1; cases h1
    rw [hc] at h2; exact absurd (Value.type.inj h2) (by decide)
  step := fun C i s m Q E hC hi st hn hQ => by
    refine wpAny_pyNext_values_item (knd := mixKind prog w) (k := kvs[i].1) (v := kvs[i].2) st.1 st.2 (by simp [hi]) fun h₁ hit₁ hs₁ => ⟨_, rfl, ?_⟩
    refine wpAny_of_eq (a := ()) rfl ?_
    have hCI : C ≠ I := fun q => Nat.lt_irrefl _ (Nat.lt_of_lt_of_le (q ▸ hI : C < lim) hC)
    have hCl : C ≠ d := fun q => Nat.lt_irrefl _ (Nat.lt_of_lt_of_le (q ▸ hl : C < lim) hC)
    refine wpAny_assign_Name (wpAny_storeName_local (kind_relabel hx C) (hn.sameBut hs₁ hCI) (fun h₂ hn₂ hs₂ => ?_) (pl_relabel hk C))
    refine hQ h₂ _ _ ⟨hit₁.at fun o e => (hs₂.2 I (Ne.symm hCI)).trans e, (st.2.extBut hs₁.extBut hId).extBut hs₂.extBut (Ne.symm hCl)⟩ hn₂ ⟨kvs[i].1, kvs[i].2, by simp [hi], ?_⟩ fun b o hb1 hb2 e => (hs₂.2 b hb1).trans ((hs₁.2 b fun q => hb2 (by simp [q])).trans e)
    show (if _ then _ else _) = _
    rw [if_pos rfl]
  done := fun s Q E st hQ => wpAny_pyNext_values_end (knd := mixKind prog w) hh st.1 st.2 (by simp) fun h' he => ⟨rfl, hQ h' s.toks fun b o hb e => he b o (fun q => hb (by simp [q])) e⟩
  self := fun i s Q E st hQ => wpAny_pyIter_valiter st.1 hQ
end

section
variable {prog : Program} {w : World} {A : Around} {E : Value → Shared → Prop} {s : Shared} {env : Env}
theorem call_values {o : Expr} {apos pos : Pos} {d : Addr} {kvs : List (Key × Value)} {Q : Value → Shared → Prop} (hdS : (d == sysModules) = false) (hm : s.heap.DictOf (mixKind prog w) d kvs)
    (hbase : attributeBase o "values" env (eval o env) = eval o env) (hline : (apos.endLine == pos.line) = true)
    (ho : ∀ Q', Q' (.ref d) s → wpAny (model prog w) A (eval o env) Q' E s)
    (hQ : Q (.ref s.heap.objs.size) { s with heap := s.heap.push { cls := .type "dict_values", data := .fields #[.ref d] } }) :
    wpAny (model prog w) A (eval (.Call (.Attribute o "values" apos) [] [] pos) env) Q E s := by
  refine wpAny_Call_method (T := "dict") (id := "dict.values") hbase rfl hline F.plainAttrs_dict F.slot_dict_values F.type_dict_values (ho _ ⟨hm.typeIs, hm.mapOf.noDict, ?_⟩)
  show wpAny _ _ (callWith pos (.builtin "dict.values") [.ref d] [] []) Q E s
  exact method_meetsIn F.slot_dict_values F.entry_dict_values rfl (PySem.evalArgs_none ⟨rfl, hm.typeIs, F.args_dict_values_1 _, _, meets_dict_values (mixKind prog w) d hdS, ⟨kvs, hm⟩, hQ⟩)
end
end Mine

namespace Mine
open PySem.SeqAt

def isB : Cnt → Bool
  | .bool _ => true
  | _ => false
def kindsOf (cs : Tab) : List Value := cs.map fun kc => .bool (isB kc.2)
theorem kinds_reads {h : Heap} : ∀ cs : Tab, ReadsAll h (kindsOf cs) (cs.map fun kc => PyData.bool (isB kc.2)) []
  | [] => .nil
  | kc :: cs => .cons (as := []) (bs := []) (.bool _) (kinds_reads cs)
theorem kinds_lay : ∀ cs : Tab, PyData.canLayAll0 (cs.map fun kc => PyData.bool (isB kc.2)) = true
  | [] => rfl
  | kc :: cs => by rw [List.map_cons]; simp [PyData.canLayAll0, PyData.canLay0, kinds_lay cs]
theorem kinds_eqv : ∀ cs : Tab, PyData.eqvAll (cs.map fun kc => PyData.bool (isB kc.2)) (cs.map fun kc => PyData.bool (isB kc.2)) = true
  | [] => rfl
  | kc :: cs => by rw [List.map_cons]; simp [PyData.eqvAll, PyData.eqv, kinds_eqv cs]
theorem kinds_depth : ∀ cs : Tab, PyData.depthAll (cs.map fun kc => PyData.bool (isB kc.2)) = 0
  | [] => by simp [PyData.depthAll]
  | kc :: cs => by rw [List.map_cons]; simp [PyData.depthAll, PyData.depth, kinds_depth cs]

section
variable {prog : Program} {w : World} {A : Around} {E : Value → Shared → Prop} {s : Shared} {Q : Flow → Shared → Prop} {L f R P d De : Addr} {cd : Value} {m : Str → Option Value} {X : Fns} {h₀ : Heap} {items es : List Value} {ts : List Th} {cs : Tab} {kvs : List (Key × Value)}

theorem eq_kinds {a b : Addr} {Q : Value → Shared → Prop} (ha : s.heap.PlainList a (kindsOf cs).toArray) (hb : s.heap.PlainList b (kindsOf cs).toArray) (hu : A.units + 2 < cLine) (h : Q (.bool true) s) : wpAny (model prog w) A (compareOp .Eq (.ref a) (.ref b)) Q E s := by
  obtain ⟨n, e⟩ := ha
  obtain ⟨n2, e2⟩ := hb
  have r1 : Reads s.heap (.ref a) (.list (cs.map fun kc => PyData.bool (isB kc.2))) [a] := .list e rfl rfl (by simpa using kinds_reads cs)
  have r2 : Reads s.heap (.ref b) (.list (cs.map fun kc => PyData.bool (isB kc.2))) [b] := .list e2 rfl rfl (by simpa using kinds_reads cs)
  refine compareEq_reads r1 r2 (by simp only [PyData.canLay0]; exact kinds_lay cs) (by simp only [PyData.canLay0]; exact kinds_lay cs) ?_ ?_
  · simp only [PyData.depth, kinds_depth]; omega
  · have : PyData.eqv (.list (cs.map fun kc => PyData.bool (isB kc.2))) (.list (cs.map fun kc => PyData.bool (isB kc.2))) = true := by
      simp only [PyData.eqv]; exact kinds_eqv cs
    rw [this]; exact h

theorem ne_str {x : Str} {t u : Tok} {Q : Value → Shared → Prop} (hx : (PyData.str x).canLay0 = true) (hu : A.units < cLine) (h : Q (.bool false) s) : wpAny (model prog w) A (compareOp .NotEq (.str x t) (.str x u)) Q E s := by
  refine compareNe_reads (da := .str x) (db := .str x) (.str _ _) (.str _ _) hx hx ?_ ?_
  · simp only [PyData.depth]; omega
  · have : PyData.eqv (.str x) (.str x) = true := by simp [PyData.eqv]
    rw [this]; exact h

theorem isinst_bool {c : Cnt} {v : Value} {Q : Value → Shared → Prop} (hc : c.is v) (h : ∀ tk, Q (.bool (isB c)) { s with toks := tk }) : wpAny (model prog w) A (call (.builtin "isinstance") [v, .type "bool"]) Q E s := by
  cases c with
  | int i => obtain ⟨t, rfl⟩ := hc; exact IsiPair.int_bool (h _)
  | bool b => obtain rfl : v = .bool b := hc; exact IsiPair.bool_bool (h s.toks)
  | str x => obtain ⟨t, rfl⟩ := hc; exact IsiPair.str_bool (h _)

theorem TallyAt.kept {h h' : Heap} (T : TallyAt prog w L R d ts h m P cs kvs) (hn : h'.Ns L m) (k : ∀ b o, b ≠ L → h.get? b = some o → h'.get? b = some o) (hdL : d ≠ L) : TallyAt prog w L R d ts h' m P cs kvs where
  ns := hn
  row := T.row
  tally := T.tally
  pairs := T.pairs
  dict := by obtain ⟨o, es, ep, ho, r⟩ := T.dict; exact ⟨o, es, ep, k d o hdL ho, r⟩
  tab := T.tab
  pats := T.pats.kept fun b o xs n ho hd => k b o (ns_not_seq T.ns ho hd) ho
  good := T.good
  ok := T.ok

set_option maxHeartbeats 1000000 in
/-- the law's statement 7: what can't be walked, what has no get -/
theorem law7 (W : Wd h₀ X) (Z : LawA A L f cd h₀) (base : ∀ b o, h₀.get? b = some o → s.heap.get? b = some o) (hdL : d ≠ L)
    (T : TallyAt prog w L R d ts s.heap m P cs kvs) (hR : s.heap.PlainList R items.toArray) (hsz : items.length ≤ 1000)
    (h : ∀ h' tk, TallyAt prog w L R d ts h' m P cs kvs → (∀ b o, b ≠ L → s.heap.get? b = some o → h'.get? b = some o) →
      wpAny (model prog w) A (execs ((fnBody 5).drop 8) (lEnv L f cd)) Q E { s with heap := h', toks := tk }) :
    wpAny (model prog w) A (execs ((fnBody 5).drop 7) (lEnv L f cd)) Q E s := by
  have hu := Z.units
  have W₀ := W.keeps base
  have hn := T.ns
  obtain ⟨ot, doct, pmt, ctt, ant, hot, hdt⟩ := W.ft.there
  have neRL : R ≠ L := by obtain ⟨n, e⟩ := hR; exact ns_not_seq hn e rfl
  refine wpAny_execs_cons ?_
  refine wpAny_If ?_
  refine isTrue_or ?_
  refine wpAny_isTrue_Compare1 ?_
  refine wpAny_Call_NameR ?_
  refine ldT (X := X) W₀ ?_
  refine Calls.callWith_function (o := ot) (fd := fnOf "_law_told" "_law_told" (fnParams 3) (fnBody 3) (fnScope 3) .none .none doct pmt ant X.tc ctt) ?_
  refine Calls.evalArgs_plain ?_
  refine Calls.spliced_cons ?_
  refine ldL hn T.tally ?_
  refine Calls.spliced_cons ?_
  refine wpAny_Call_NameR ?_
  refine ldB (X := X) W₀ (v := .builtin "len") (by decide) ?_
  refine PyProof.Rows.callWith_builtin1 ?_
  refine args_cons ?_
  refine ldL hn T.row ?_
  refine args_nil ?_
  refine len_list hR.isList (by rw [List.size_toArray]; omega) ?_
  refine Calls.spliced_nil ?_
  refine ⟨⟨base _ _ hot, hdt⟩, ?_⟩
  refine told_call_int (s := { s with toks := _ }) (fr := [lEnv L f cd]) (d := d) (kvs := kvs) W (Z.stk hn base) T.dict fun h₁ tk₁ hk₁ hsl₁ => ?_
  have k₁ : ∀ b o, b ≠ L → s.heap.get? b = some o → h₁.get? b = some o := fun b o hb e => hk₁ b o (not_frs hb) e
  have hn₁ : h₁.Ns L m := ns_slots hn fun o e => hsl₁ L o in_frs e
  have base₁ : ∀ b o, h₀.get? b = some o → h₁.get? b = some o := fun b o e => k₁ b o (fun q => by rw [q, Z.new] at e; cases e) (base b o e)
  have hR₁ : h₁.PlainList R items.toArray := by obtain ⟨n, e⟩ := hR; exact ⟨n, k₁ R _ neRL e⟩
  refine wpAny_Constant_str ?_
  refine ne_str (by decide +kernel) (by show A.units < cLine; omega) ?_
  refine wpAny_truthy_bool ?_
  rw [if_neg (by decide)]
  refine isTrue_or ?_
  refine wpAny_isTrue_Compare1 ?_
  refine wpAny_Call_NameR ?_
  refine ldT (s := { s with heap := h₁, toks := _ }) (X := X) (W.keeps base₁) ?_
  refine Calls.callWith_function (o := ot) (fd := fnOf "_law_told" "_law_told" (fnParams 3) (fnBody 3) (fnScope 3) .none .none doct pmt ant X.tc ctt) ?_
  refine Calls.evalArgs_plain ?_
  refine Calls.spliced_cons ?_
  refine ldL (s := { s with heap := h₁, toks := _ }) hn₁ T.row ?_
  refine Calls.spliced_cons ?_
  refine List_ ?_
  refine args_nil ?_
  refine newList_as (s := { s with heap := h₁, toks := _ }) (P := fun _ => True) trivial (by rw [sizeLine_eq]; exact Nat.le_of_ble_eq_true rfl) fun V h₂ _ hV₂ hz₂ k₂ => ?_
  refine Calls.spliced_nil ?_
  refine ⟨⟨k₂ _ _ (base₁ _ _ hot), hdt⟩, ?_⟩
  have hn₂ := hn₁.keeps k₂
  obtain ⟨n₁, e₁⟩ := hR₁
  refine told_call_list (s := { s with heap := h₂, toks := _ }) (fr := [lEnv L f cd]) (a := R) W (Z.stk hn₂ fun b o e => k₂ b o (base₁ b o e)) (k₂ _ _ e₁) rfl rfl rfl fun h₃ tk₃ hk₃ hsl₃ => ?_
  have k₃ : ∀ b o, b ≠ L → s.heap.get? b = some o → h₃.get? b = some o := fun b o hb e => hk₃ b o (not_frs hb) (k₂ b o (k₁ b o hb e))
  have hn₃ : h₃.Ns L m := ns_slots hn₂ fun o e => hsl₃ L o in_frs e
  refine wpAny_Constant_str ?_
  refine ne_str (by decide +kernel) (by show A.units < cLine; omega) ?_
  refine wpAny_truthy_bool ?_
  rw [if_neg (by decide)]
  refine isTrue_or_nil ?_
  rw [if_neg (by decide)]
  refine wpAny_execs_nil ?_
  exact h h₃ _ (T.kept hn₃ k₃ hdL) k₃
end
end Mine

namespace Mine
open PySem.SeqAt

def rScope : Scope := match ((fnBody 5)[9]? : Option Stmt) with
  | some (.Return (some (.BoolOp _ [_, .Compare (.ListComp _ _ sc _) _ _ _] _)) _) => sc
  | _ => { kind := .function, names := [], isGenerator := false, isCoroutine := false, more := [] }
theorem lclos9 (L f : Addr) (cd : Value) : closureFor rScope (lEnv L f cd) = pure [] := by with_unfolding_all rfl

theorem TabIs.vals {kvs : List (Key × Value)} {cs : Tab} (h : TabIs kvs cs) : ∀ {i : Nat} {k : Key} {v : Value}, kvs[i]? = some (k, v) → ∃ c, cs[i]? = some (k, c) ∧ c.is v := fun e => h.get e

section
variable {prog : Program} {w : World} {A : Around} {E : Value → Shared → Prop} {s : Shared} {Q : Flow → Shared → Prop} {L f R P d K : Addr} {cd : Value} {m : Str → Option Value} {X : Fns} {h₀ : Heap} {ts : List Th} {cs : Tab} {kvs : List (Key × Value)}

set_option maxHeartbeats 1000000 in
/-- the law's statement 8: the kinds of the counts -/
theorem law8 (W : Wd s.heap X) (hh : A.handled = none) (hn : s.heap.Ns L m) (hm : m "pairs" = some (.ref P)) (hP : PairsAt s.heap P cs) (hsz : cs.length ≤ 1000)
    (h : ∀ h' tk D, h'.PlainList D (kindsOf cs).toArray → h'.Ns L (fun z => if z = "kinds" then some (.ref D) else m z) → (∀ b o, b ≠ L → s.heap.get? b = some o → h'.get? b = some o) →
      wpAny (model prog w) A (execs ((fnBody 5).drop 9) (lEnv L f cd)) Q E { s with heap := h', toks := tk }) :
    wpAny (model prog w) A (execs ((fnBody 5).drop 8) (lEnv L f cd)) Q E s := by
  obtain ⟨items, ps, hl, hlen, htup, hall⟩ := id hP
  have hlen' := hall.length
  have hlt : P < s.heap.objs.size := by obtain ⟨n, e⟩ := hl; exact Heap.lt_size e
  refine wpAny_execs_cons ?_
  refine comp_assign (cl := []) (by decide) (by with_unfolding_all rfl) (lclos8 L f cd) (by decide) rfl (by decide) rfl rfl ?_
  refine ldL hn hm ?_
  refine wpAny_pyIter_list hl.isList ?_
  refine ⟨_, _, _, _, fun _ => true, fun j h y => ∃ kc, cs[j]? = some kc ∧ y = .bool (isB kc.2), m, ⟨draws_pairs (items := items) (ps := ps) (I := s.heap.objs.size) (l := P) hh rfl rfl (by decide) rfl (by rw [Heap.size_push]; exact Nat.lt_succ_self _) (by rw [Heap.size_push]; exact Nat.lt_succ_of_lt hlt) (Nat.ne_of_lt hlt) hlen, ?_, fun i h h' y _ hy => hy, ?_, ?_, pairs_start rfl hl.isList htup⟩, ?_, hn.push _, ?_⟩
  · rw [sizeLine_eq]; omega
  · intro C i s₃ m₃ E' _ _ _ _
    exact wpAny_pure ⟨rfl, s₃.heap, s₃.toks, rfl, fun _ _ e => e⟩
  · intro C i s₃ m₃ E' hi _ hn₃ hbd hk₃
    obtain ⟨p, hp, hx, hy⟩ := hbd
    obtain ⟨kc, hkc, hk1, hk2⟩ := hall.get hp
    have up : ∀ b o, s.heap.get? b = some o → s₃.heap.get? b = some o := fun b o e => hk₃ b o (one_new e) (Heap.get?_push_of_some _ e)
    have W₃ := W.keeps up
    refine wpAny_Call_NameR ?_
    refine ldKb W₃ (v := .builtin "isinstance") (by decide) ?_
    refine PyProof.Rows.callWith_builtin1 ?_
    refine args_cons ?_
    refine ldK hn₃ hy ?_
    refine args_cons ?_
    refine ldKb W₃ (v := .type "bool") (by decide) ?_
    refine args_nil ?_
    exact isinst_bool hk2 fun tk => ⟨⟨kc, hkc, rfl⟩, s₃.heap, tk, rfl, fun _ _ e => e⟩
  · obtain ⟨o, _, _, ho, _⟩ := hn
    exact one_new ho
  · intro D h' tk ys hD hl' hels hn' hk'
    rw [filter_all, ← hlen, hlen'] at hels
    have hys : ys.toList = kindsOf cs := by
      rw [els_map (f := fun i => ((cs[i]?).map fun kc => Value.bool (isB kc.2)).getD .none) hels (by rintro i v ⟨kc, hp, rfl⟩; rw [hp]; rfl)]
      exact range_map_get cs (fun kc => Value.bool (isB kc.2)) _
    exact h h' tk D (by rw [← hys]; exact hl') hn' fun b o hb e => hk' b o hb (one_new e) (Heap.get?_push_of_some _ e)

set_option maxHeartbeats 1000000 in
/-- the last line -/
theorem law9 (W : Wd h₀ X) (Z : LawA A L f cd h₀) (base : ∀ b o, h₀.get? b = some o → s.heap.get? b = some o) (hmod : (d == sysModules) = false)
    (T : TallyAt prog w L R d ts s.heap m P cs kvs) (hsz : cs.length ≤ 1000) (hm : m "kinds" = some (.ref K)) (hK : s.heap.PlainList K (kindsOf cs).toArray)
    (h : ∀ h' tk, h'.Ns L m → (∀ b o, s.heap.get? b = some o → h'.get? b = some o) → Q (.ret (.bool true)) { s with heap := h', toks := tk }) :
    wpAny (model prog w) A (execs ((fnBody 5).drop 9) (lEnv L f cd)) Q E s := by
  have hu := Z.units
  have W₀ := W.keeps base
  have hn := T.ns
  refine wpAny_execs_cons ?_
  refine wpAny_Return_some ?_
  refine BoolOp_and ?_
  refine wpAny_Compare1 ?_
  refine eval_items (X := X) (d := d) (kvs := kvs) (cs := cs) W₀ Z.hand hn T.tally hmod T.dict T.tab hsz fun h₁ tk₁ l₁ hP₁ k₁ => ?_
  have hn₁ := hn.keeps k₁
  refine ldL (s := { s with heap := h₁, toks := _ }) hn₁ T.pairs ?_
  refine eq_tabs (s := { s with heap := h₁, toks := _ }) hP₁ (T.pats.kept (SeqKept.of_keeps k₁)) T.ok (by omega) ?_
  refine wpAny_truthy_bool ?_
  rw [if_pos rfl]
  refine BoolOp_one ?_
  refine wpAny_Compare1 ?_
  obtain ⟨od, es, ep, hod, hrest⟩ := dictOf_keeps T.dict k₁
  have hdlt : d < h₁.objs.size := Heap.lt_size hod
  have W₁ : Wd h₁ X := W.keeps fun b o e => k₁ b o (base b o e)
  refine comp_eval (cl := []) (by decide) (lclos9 L f cd) (by decide) rfl (by decide) ?_
  refine call_values (s := { s with heap := h₁, toks := _ }) hmod ⟨od, es, ep, hod, hrest⟩ rfl rfl (fun Q' hq => ldL (s := { s with heap := h₁, toks := _ }) hn₁ T.tally hq) ?_
  have k₂ : ∀ b o, h₁.get? b = some o → (h₁.push { cls := .type "dict_values", data := .fields #[.ref d] }).get? b = some o := fun b o e => Heap.get?_push_of_some _ e
  refine wpAny_pyIter_values (knd := mixKind prog w) (kvs := kvs) (ep := ep) ⟨_, Heap.get?_push_size _ rfl, rfl, rfl⟩ ⟨od, es, k₂ _ _ hod, hrest⟩ ?_
  have hz : (h₁.push { cls := .type "dict_values", data := .fields #[.ref d] }).objs.size = h₁.objs.size + 1 := Heap.size_push _ _
  have hIlt : (h₁.push { cls := .type "dict_values", data := .fields #[.ref d] }).objs.size < ((h₁.push { cls := .type "dict_values", data := .fields #[.ref d] }).push { cls := .type "dict_valueiterator", data := .fields #[.ref d, .int 0 0, .int kvs.length 0, .int ep 0] }).objs.size := by
    rw [Heap.size_push (h₁.push _)]; exact Nat.lt_succ_self _
  have hdlt2 : d < ((h₁.push { cls := .type "dict_values", data := .fields #[.ref d] }).push { cls := .type "dict_valueiterator", data := .fields #[.ref d, .int 0 0, .int kvs.length 0, .int ep 0] }).objs.size := by
    refine Nat.lt_trans ?_ hIlt
    rw [hz]; exact Nat.lt_succ_of_lt hdlt
  have hTl := T.tab.length
  refine ⟨_, _, _, _, fun _ => true, fun j h y => ∃ kc, cs[j]? = some kc ∧ y = .bool (isB kc.2), ⟨draws_values (kvs := kvs) (ep := ep) (I := (h₁.push { cls := .type "dict_values", data := .fields #[.ref d] }).objs.size) (d := d) Z.hand rfl rfl hIlt hdlt2 (by rw [hz]; exact Nat.ne_of_lt (Nat.lt_succ_of_lt hdlt)), ?_, fun i h h' y _ hy => hy, ?_, ?_, ?_⟩, ?_⟩
  · rw [sizeLine_eq]; omega
  · intro C i s₃ m₃ E' _ _ _ _
    exact wpAny_pure ⟨rfl, s₃.heap, s₃.toks, rfl, fun _ _ e => e⟩
  · intro C i s₃ m₃ E' hi _ hn₃ hbd hk₃
    obtain ⟨k, v, hp, hx⟩ := hbd
    obtain ⟨c, hkc, hk2⟩ := T.tab.vals hp
    have up : ∀ b o, h₁.get? b = some o → s₃.heap.get? b = some o := fun b o e => hk₃ b o (by
      rw [hz]
      intro q
      have h1 := Heap.lt_size e
      rw [List.mem_singleton.mp q] at h1
      exact absurd h1 (Nat.not_lt.mpr (Nat.le_succ _))) (Heap.get?_push_of_some _ (k₂ b o e))
    have W₃ := W₁.keeps up
    refine wpAny_Call_NameR ?_
    refine ldKb W₃ (v := .builtin "isinstance") (by decide) ?_
    refine PyProof.Rows.callWith_builtin1 ?_
    refine args_cons ?_
    refine ldK hn₃ hx ?_
    refine args_cons ?_
    refine ldKb W₃ (v := .type "bool") (by decide) ?_
    refine args_nil ?_
    exact isinst_bool hk2 fun tk => ⟨⟨(k, c), hkc, rfl⟩, s₃.heap, tk, rfl, fun _ _ e => e⟩
  · exact ⟨⟨_, Heap.get?_push_size _ rfl, rfl, rfl⟩, od, es, Heap.get?_push_of_some _ (k₂ _ _ hod), hrest⟩
  · intro D h' tk ys hD hl' hels hk'
    rw [filter_all, hTl] at hels
    have hys : ys.toList = kindsOf cs := by
      rw [els_map (f := fun i => ((cs[i]?).map fun kc => Value.bool (isB kc.2)).getD .none) hels (by rintro i v ⟨kc, hp, rfl⟩; rw [hp]; rfl)]
      exact range_map_get cs (fun kc => Value.bool (isB kc.2)) _
    have up : ∀ b o, h₁.get? b = some o → h'.get? b = some o := fun b o e => hk' b o (by
      rw [hz]
      intro q
      have h1 := Heap.lt_size e
      rw [List.mem_singleton.mp q] at h1
      exact absurd h1 (Nat.not_lt.mpr (Nat.le_succ _))) (Heap.get?_push_of_some _ (k₂ b o e))
    refine ldL (s := { s with heap := h', toks := _ }) (hn₁.keeps up) hm ?_
    refine eq_kinds (s := { s with heap := h', toks := _ }) (cs := cs) (by rw [← hys]; exact hl') (plain_kept (SeqKept.of_keeps up) (plain_kept (SeqKept.of_keeps k₁) hK)) (by omega) ?_
    exact h h' _ (hn₁.keeps up) fun b o e => up b o (k₁ b o e)
end
end Mine

namespace Mine
open PySem.SeqAt

section
variable {prog : Program} {w : World} {A : Around} {E : Value → Shared → Prop} {s : Shared} {Q : Flow → Shared → Prop} {L f sc : Addr} {cd : Value} {m : Str → Option Value} {X : Fns} {h₀ : Heap} {vs : List Value} {ns : List Int}

set_option maxHeartbeats 1000000 in
/-- the law's body gives True -/
theorem law_body (W : Wd h₀ X) (Z : LawA A L f cd h₀) (base : ∀ b o, h₀.get? b = some o → s.heap.get? b = some o) (hn : s.heap.Ns L m) (hm : m "script" = some (.ref sc)) (hl : s.heap.IsList sc vs.toArray) (hI : IntsAre vs ns) (hsz : ns.length ≤ 63)
    (h : ∀ h' tk m', h'.Ns L m' → (∀ b o, h₀.get? b = some o → h'.get? b = some o) → Q (.ret (.bool true)) { s with heap := h', toks := tk }) :
    wpAny (model prog w) A (execs (fnBody 5) (lEnv L f cd)) Q E s := by
  have hu := Z.units
  refine law01 Z.hand hn hm hl hI (by omega) fun h₁ tk₁ m₁ R items hn₁ hr₁ hs₁ hR₁ hth₁ hRn k₁ => ?_
  have base₁ : ∀ b o, h₀.get? b = some o → h₁.get? b = some o := fun b o e => k₁ b o (fun q => by rw [q, Z.new] at e; cases e) (base b o e)
  have W₁ := W.keeps base₁
  have hl₁ : h₁.IsList sc vs.toArray := by obtain ⟨o, e, hc, n, hd⟩ := hl; exact ⟨o, k₁ sc o (ns_not_seq hn e hd) e, hc, n, hd⟩
  generalize hts : (first8 ++ ns).map thOf = ts at hth₁
  have htsl : ts.length ≤ 200 := by
    rw [← hts, List.length_map, List.length_append]
    have : first8.length = 8 := rfl
    omega
  have tok : ThOk ts := hts ▸ ThOk.row _
  have hth₁' := hth₁.unhid
  have hlen := hth₁'.length
  refine law2 (s := { s with heap := h₁, toks := tk₁ }) (X := X) (sc := sc) (vs := vs) (ns := ns) W₁ Z.hand hn₁ hs₁ hl₁ hI (by omega) fun h₂ tk₂ kvs hn₂ hD₂ hT₂ k₂ => ?_
  dsimp only at hn₂ hD₂ k₂
  have hLlt : L < h₁.objs.size := hn₁.lt
  have hdL : h₁.objs.size ≠ L := Nat.ne_of_gt hLlt
  have hdn : h₀.get? h₁.objs.size = none := by
    cases q : h₀.get? h₁.objs.size with
    | none => rfl
    | some o => exact absurd (Heap.lt_size (base₁ _ o q)) (Nat.lt_irrefl _)
  have hmod : (h₁.objs.size == sysModules) = false := beq_eq_false_iff_ne.mpr (Nat.ne_of_gt (modules_low W₁.lim))
  have sk₂ : SeqKept h₁ h₂ := fun b o xs n ho hd => k₂ b o (ns_not_seq hn₁ ho hd) ho
  have base₂ : ∀ b o, h₀.get? b = some o → h₂.get? b = some o := fun b o e => k₂ b o (fun q => by rw [q, Z.new] at e; cases e) (base₁ b o e)
  refine wpAny_execs_cons ?_
  refine wpAny_Assign_Name ?_
  refine eval_items (s := { s with heap := h₂, toks := tk₂ }) (X := X) (d := h₁.objs.size) (kvs := kvs) (cs := cs0 ns) (W.keeps base₂) Z.hand hn₂ rfl hmod hD₂ hT₂ (by show 5 ≤ 1000; omega) fun h₃ tk₃ P hP₃ k₃ => ?_
  have hn₃ := hn₂.keeps k₃
  refine stL (s := { s with heap := h₃, toks := _ }) hn₃ fun h₄ hn₄ hs₄ => ?_
  have k₄ : ∀ b o, b ≠ L → h₂.get? b = some o → h₄.get? b = some o := fun b o hb e => (hs₄.2 b hb).trans (k₃ b o e)
  have sk₃ : SeqKept h₃ h₄ := sub_seq hs₄ fun b o xs n ho hd => ns_not_seq hn₃ ho hd
  have sk₄ : SeqKept h₁ h₄ := (sk₂.trans (SeqKept.of_keeps k₃)).trans sk₃
  have base₄ : ∀ b o, h₀.get? b = some o → h₄.get? b = some o := fun b o e => k₄ b o (fun q => by rw [q, Z.new] at e; cases e) (base₂ b o e)
  have hD₄ : h₄.DictOf (mixKind prog w) h₁.objs.size kvs := by obtain ⟨o, es, ep, ho, r⟩ := hD₂; exact ⟨o, es, ep, k₄ _ o hdL ho, r⟩
  refine law4 (s := { s with heap := h₄, toks := _ }) (X := X) (R := R) (items := items) (ts := ts) (W.keeps base₄) Z.hand (by omega) hn₄ hr₁ (plain_kept sk₄ hR₁) (hth₁'.kept sk₄) (by omega) fun h₅ tk₅ De es hE₅ hI₅ hn₅ k₅ => ?_
  dsimp only at k₅
  have sk₅ : SeqKept h₄ h₅ := fun b o xs n ho hd => k₅ b o (ns_not_seq hn₄ ho hd) ho
  have base₅ : ∀ b o, h₀.get? b = some o → h₅.get? b = some o := fun b o e => k₅ b o (fun q => by rw [q, Z.new] at e; cases e) (base₄ b o e)
  have hD₅ : h₅.DictOf (mixKind prog w) h₁.objs.size kvs := by obtain ⟨o, es, ep, ho, r⟩ := hD₄; exact ⟨o, es, ep, k₅ _ o hdL ho, r⟩
  have hR₅ := plain_kept sk₅ (plain_kept sk₄ hR₁)
  refine law56 (s := { s with heap := h₅, toks := tk₅ }) (X := X) (R := R) (P := P) (d := h₁.objs.size) (De := De) (items := items) (es := es) (ts := ts) (cs := cs0 ns) (kvs := kvs) W Z base₅ hdn hmod hdL
    ⟨hn₅, hr₁, rfl, rfl, hD₅, hT₂, (hP₃.kept sk₃).kept sk₅, TabGood.start ns, TabOk.start ns⟩ (Nat.le_refl 5) rfl hR₅ ((hth₁'.kept sk₄).kept sk₅) tok htsl hE₅ hI₅ fun h₆ tk₆ m₆ P₆ cs₆ kvs₆ T₆ hcl₆ k₆ => ?_
  dsimp only at k₆
  have base₆ : ∀ b o, h₀.get? b = some o → h₆.get? b = some o := fun b o e => k₆ b o (fun q => by rw [q, Z.new] at e; cases e) (fun q => by rw [q, hdn] at e; cases e) (base₅ b o e)
  have neR : R ≠ L ∧ R ≠ h₁.objs.size := by
    obtain ⟨n, e⟩ := hR₅
    exact ⟨ns_not_seq hn₅ e rfl, dict_not_seq hD₅ e rfl⟩
  have hR₆ : h₆.PlainList R items.toArray := by obtain ⟨n, e⟩ := hR₅; exact ⟨n, k₆ R _ neR.1 neR.2 e⟩
  refine law7 (s := { s with heap := h₆, toks := tk₆ }) (X := X) (d := h₁.objs.size) (items := items) W Z base₆ hdL T₆ hR₆ (by omega) fun h₇ tk₇ T₇ k₇ => ?_
  dsimp only at k₇
  have base₇ : ∀ b o, h₀.get? b = some o → h₇.get? b = some o := fun b o e => k₇ b o (fun q => by rw [q, Z.new] at e; cases e) (base₆ b o e)
  refine law8 (s := { s with heap := h₇, toks := tk₇ }) (X := X) (P := P₆) (cs := cs₆) (W.keeps base₇) Z.hand T₇.ns T₇.pairs T₇.pats (by omega) fun h₈ tk₈ D₈ hK₈ hn₈ k₈ => ?_
  dsimp only at k₈
  have base₈ : ∀ b o, h₀.get? b = some o → h₈.get? b = some o := fun b o e => k₈ b o (fun q => by rw [q, Z.new] at e; cases e) (base₇ b o e)
  refine law9 (s := { s with heap := h₈, toks := tk₈ }) (X := X) (d := h₁.objs.size) (R := R) (P := P₆) (ts := ts) (cs := cs₆) (kvs := kvs₆) (K := D₈) W Z base₈ hmod
    ⟨hn₈, T₇.row, T₇.tally, T₇.pairs, ?_, T₇.tab, T₇.pats.kept fun b o xs n ho hd => k₈ b o (ns_not_seq T₇.ns ho hd) ho, T₇.good, T₇.ok⟩ (by omega) rfl hK₈ fun h₉ tk₉ hn₉ k₉ => ?_
  · obtain ⟨o, es, ep, ho, r⟩ := T₇.dict
    exact ⟨o, es, ep, k₈ _ o hdL ho, r⟩
  · exact h h₉ tk₉ _ hn₉ fun b o e => k₉ b o (base₈ b o e)
end
end Mine

namespace Mine
set_option maxRecDepth 100000 in
set_option maxHeartbeats 8000000 in
open_top hd for PySem.Challenge.rw_dp0007_01
end Mine

namespace Mine

set_option maxRecDepth 100000 in
set_option maxHeartbeats 4000000 in
theorem wd_of {p : Program} {loose : List Str} {mg mb : Str → Option Value} {P : Params} {h : Heap} (KX : (hd.heap_39 P).In h) (T : TopRead p loose mg mb h) : ∃ X, Wd h X := by
  have b1 : ∀ q ∈ bltNames, nsIn (hd.heap_39 P) mainGlobals q.1 = some none := by
    intro q hq
    simp only [bltNames, List.mem_cons, List.not_mem_nil, or_false] at hq
    rcases hq with rfl | rfl | rfl | rfl | rfl | rfl | rfl | rfl <;> with_unfolding_all rfl
  have b2 : ∀ q ∈ bltNames, bootBuiltins q.1 = some q.2 ∧ q.1 ≠ "__name__" := by
    intro q hq
    simp only [bltNames, List.mem_cons, List.not_mem_nil, or_false] at hq
    rcases hq with rfl | rfl | rfl | rfl | rfl | rfl | rfl | rfl <;> exact ⟨by decide +kernel, by decide⟩
  refine ⟨⟨21, .ref 20, 28, .ref 27, 33, .ref 32⟩, ⟨mg, T.g, mg_of KX T.g (by with_unfolding_all rfl), mg_of KX T.g (by with_unfolding_all rfl), mg_of KX T.g (by with_unfolding_all rfl), fun q hq => mg_none_of KX T.g (b1 q hq)⟩,
    ⟨mb, T.b, fun q hq => (T.builtins q.1 (b2 q hq).2).trans (b2 q hq).1⟩, ⟨⟨_, _, _, _, _, KX 21 _ (by with_unfolding_all rfl), rfl⟩, codeRec_of KX (by with_unfolding_all rfl)⟩, ⟨⟨_, _, _, _, _, KX 28 _ (by with_unfolding_all rfl), rfl⟩, codeRec_of KX (by with_unfolding_all rfl)⟩, ⟨⟨_, _, _, _, _, KX 33 _ (by with_unfolding_all rfl), rfl⟩, codeRec_of KX (by with_unfolding_all rfl)⟩, T.nolimit⟩
end Mine

namespace Mine
theorem none_at (h : Heap) : h.get? h.objs.size = none := by
  cases q : h.get? h.objs.size with
  | none => rfl
  | some o => exact absurd (Heap.lt_size q) (Nat.lt_irrefl _)
theorem lawA_top {f : Addr} {cd : Value} (h : Heap) : LawA (callerA.deeper (lEnv h.objs.size f cd)) h.objs.size f cd h where
  frames := Around.frames_deeper rfl
  hand := rfl
  room := by show 1 + claimMargin + 1 + 10 < recursionLimit; decide
  units := by show 4 + 3 + 100 < cLine; decide
  new := none_at h
end Mine
set_option maxRecDepth 100000 in
set_option maxHeartbeats 8000000 in
theorem PySem.Challenge.cw_dp0007_01_holds : PySem.Challenge.rw_dp0007_01.Holds := by
  exact Mine.hd (by
  k_go0
  all_goals try k_fold
  rename Frag.In _ _ => KX
  rename Top _ _ _ _ _ _ => T
  rename Fr _ _ _ _ => F
  rename IntsAre _ _ => hI
  rename Heap.IsList _ _ _ => hL
  rename _ = #[] => hg
  rename ¬ _ => hc
  obtain ⟨X, W⟩ := Mine.wd_of KX (topRead_of T)
  refine Mine.law_body W (Mine.lawA_top _) F.keep F.ns rfl (F.lst hL) hI (by omega) fun h' tk m' hn' hk' => ?_
  refine goodW_bool ⟨hn', hk', F.above⟩ hg (raisesW_false ?_) ?_
  · wrow_none_raised
  · wrow_post)
