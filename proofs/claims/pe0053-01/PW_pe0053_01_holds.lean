import PyProof.Rows.All
import Wide.All
import OpenK.AllK
import Wide.FinOn
import PySem.Challenge.RW_pe0053_01
set_option Elab.async false
set_option linter.unusedVariables false
set_option linter.unusedSimpArgs false
set_option compiler.extract_closed false
section -- Head0
open PySem PySem.W PyProof.Rows
set_option maxRecDepth 100000
set_option maxHeartbeats 8000000
namespace Mine
open_top hd for PySem.Challenge.rw_pe0053_01
end Mine
end -- Head0

section -- F1
open PySem PySem.W PyProof.Rows PySem.Calls
open PySem.Builtin PySem.Builtin.ObjectAttr
set_option maxRecDepth 100000
set_option maxHeartbeats 8000000
namespace Mine
theorem store_function : PySem.StoreFacts "function" [.type "function", .type "object"] "object.__setattr__" "object" where
  mro := by kernel_rfl
  slot := .of (owner := "object") (n := "__setattr__") (by rw [typeLookup_type, builtinLookup_eq_fast]; kernel_rfl) (by decide +kernel) (by decide +kernel) (by decide +kernel)
    (by first | exact .inl (by decide +kernel) | exact .inr (by decide +kernel)) (by rw [isSubtype_type]; kernel_rfl)
  entry := PySem.F.entry_object_sa
  kind := by decide +kernel
  split := by decide +kernel
  hasOwner := by decide +kernel
  args := fun a b c => by unfold argsOk; kernel_rfl
  passes := fun self => by kernel_rfl
theorem slot_fga : Slot "function" "__getattribute__" "object.__getattribute__" :=
  .of (owner := "object") (n := "__getattribute__") (by rw [typeLookup_type, builtinLookup_eq_fast]; kernel_rfl) (by decide +kernel) (by decide +kernel) (by decide +kernel)
    (by first | exact .inl (by decide +kernel) | exact .inr (by decide +kernel)) (by rw [isSubtype_type]; kernel_rfl)
theorem entry_oga : entryFor table "object.__getattribute__" = some Builtin.«object.__getattribute__» := entryFor_of_tree (by kernel_rfl)
theorem args_oga (a b : Value) : argsOk "object.__getattribute__" ⟨[a, b], []⟩ := by unfold argsOk; kernel_rfl
theorem fn_no_span : typeLookup (.type "function") "span" = pure none := by rw [typeLookup_type, builtinLookup_eq_fast]; kernel_rfl
theorem fn_no_search : typeLookup (.type "function") "search" = pure none := by rw [typeLookup_type, builtinLookup_eq_fast]; kernel_rfl
theorem fn_no_bool : typeLookup (.type "function") "__bool__" = pure none := by rw [typeLookup_type, builtinLookup_eq_fast]; kernel_rfl
theorem fn_no_len : typeLookup (.type "function") "__len__" = pure none := by rw [typeLookup_type, builtinLookup_eq_fast]; kernel_rfl
theorem fn_no_getattr : typeLookup (.type "function") "__getattr__" = pure none := by rw [typeLookup_type, builtinLookup_eq_fast]; kernel_rfl
theorem fn_has_dict : typeHasDict (.type "function") = true := by kernel_rfl

noncomputable abbrev fnObj (d : Option Addr) (fd : FuncData) (sl : Array (Option Value)) : Obj := ⟨.type "function", d, .func fd, sl⟩
section
variable {prog : Program} {w : World} {A : Around} {E : Value → Shared → Prop} {s : Shared} {h₀ : Heap} {L : Addr} {m : Str → Option Value} {news : List (Addr × Obj)} {f : Addr} {fd : FuncData} {sl : Array (Option Value)} {name : Str} {v : Value}

theorem fn_typeIs {d : Option Addr} {s : Shared} (hf : s.heap.get? f = some (fnObj d fd sl)) : s.TypeIs (.ref f) "function" := ⟨_, hf, rfl⟩

/-- a name laid on a function that has no dict yet -/
theorem fn_set {Q : Unit → Shared → Prop} {g : Obj → List (Addr × Obj)} (hl : typeLookup (.type "function") name = pure none) (F : Fr h₀ L s.heap m) (N : News h₀ L s.heap news) (U : UpdF f (fnObj none fd sl) news g)
    (h : ∀ d h', Fr h₀ L h' m → News h₀ L h' ((d, dictOf [⟨PyData.keyHash w.params name, .str name (s.toks + 1), v⟩] 1) :: g (fnObj (some d) fd sl)) → (∀ p ∈ news, p.1 < d) → Q () { s with heap := h', toks := s.toks + 2 }) :
    wpAny (model prog w) A (setAttr (.ref f) name v) Q E s := by
  obtain ⟨pre, post, rfl, hgr, h1, h2⟩ := U.split
  have hf := (N (f, fnObj none fd sl) (List.mem_append_right _ (.head _))).1
  have hL := (N (f, fnObj none fd sl) (List.mem_append_right _ (.head _))).2
  unfold setAttr
  refine wpAny_bind (wpAny_mkText (wpAny_bind (wpAny_callSpecial?_slot (fn_typeIs hf) store_function.slot (wpAny_call ?_))))
  have ty : Looks (model prog w) s.heap (typeOf (.ref f)) (.type "function") := (Looks.ld (part := some headPart) hf).andThen .now
  have sub : Looks (model prog w) s.heap (isInstance (.ref f) (.type "object")) true := ty.andThen (.of_pure (by rw [isSubtype_type]; kernel_rfl))
  refine codeAny_call_builtin store_function.slot.plain store_function.entry (@check_slot (model prog w) _ _ _ "object.__setattr__" "object" "__setattr__" (.ref f) [.str name s.toks, v] [] _ store_function.kind store_function.split sub (store_function.args (.ref f) (.str name s.toks) v) ?_)
  rw [osa_eq, refuse_eq]
  refine wpAny_bind (wpAny_bind (ty.here (s := { s with toks := s.toks + 1 }) (wpAny_bind ?_)))
  rw [store_function.mro]
  refine wpAny_pure ?_
  rw [store_function.passes]
  refine wpAny_pure (wpAny_bind (ty.here (s := { s with toks := s.toks + 1 }) (wpAny_bind ?_)))
  rw [hl]
  refine wpAny_pure (wpAny_bind (wpAny_pure (a := none) ?_))
  show wpAny _ _ (storeInOwnDict (.ref f) (.type "function") (.str name s.toks) name v false) _ _ _
  unfold storeInOwnDict
  refine wpAny_bind (wpAny_pure (a := ()) ?_)
  refine wpAny_bind ?_
  show wpAny _ _ (instanceDict f true) _ _ _
  unfold instanceDict
  refine wpAny_bind (wpAny_loadPart (s := { s with toks := s.toks + 1 }) hf ?_)
  dsimp only
  rw [fn_has_dict]
  simp only [Bool.not_true, Bool.or_self, Bool.false_eq_true, if_false]
  refine wpAny_bind (wpAny_alloc ?_)
  refine wpAny_bind (wpAny_update (o := fnObj none fd sl) (Heap.get?_push_of_some _ hf) ?_)
  have hsz : ∀ p ∈ pre ++ (f, fnObj none fd sl) :: post, p.1 < s.heap.objs.size := fun p hp => Heap.lt_size (N p hp).1
  have hfs : f < s.heap.objs.size := Heap.lt_size hf
  have F1 := F.push (dictOf [] 0)
  have N1 := N.push F (dictOf [] 0)
  obtain ⟨F2, N2⟩ := news_upd (pre := (s.heap.objs.size, dictOf [] 0) :: pre) (f := fun o => { o with dict := some s.heap.objs.size }) (o' := fnObj (some s.heap.objs.size) fd sl) F1 N1 (fun p hp => by
    rcases List.mem_cons.mp hp with rfl | hp
    · exact Nat.ne_of_gt hfs
    · exact h1 p hp) h2 rfl rfl
  obtain ⟨F3, N3⟩ := news_upd (pre := []) (post := pre ++ (f, fnObj (some s.heap.objs.size) fd sl) :: post) (d := s.heap.objs.size) (o := dictOf [] 0) (f := Obj.putName name (PyData.keyHash w.params name) (.str name (s.toks + 1)) v)
    (o' := dictOf [⟨PyData.keyHash w.params name, .str name (s.toks + 1), v⟩] 1) F2 N2 (fun _ h => nomatch h) (fun p hp => by
      refine Nat.ne_of_lt ?_
      rcases List.mem_append.mp hp with hp | hp
      · exact hsz p (List.mem_append_left _ hp)
      · rcases List.mem_cons.mp hp with rfl | hp
        · exact hfs
        · exact hsz p (List.mem_append_right _ (.tail _ hp))) (by rw [putName_dict]; rfl) rfl
  have D2 := (N2 _ (.head _)).1
  have D3 := (N3 _ (.head _)).1
  have e0 : ∀ d, dictMade (.type "function") f d = pure (some d) := fun d => by kernel_rfl
  rw [e0]
  refine wpAny_pure ?_
  show wpAny _ _ (storeInDict s.heap.objs.size (.str name s.toks) name v) _ _ _
  unfold storeInDict
  refine wpAny_bind (wpAny_pure (a := ()) (wpAny_bind ?_))
  unfold nsSet
  refine wpAny_bind (wpAny_bind (wpAny_askSetting (wpAny_pure (wpAny_bind (wpAny_mkText (wpAny_bind (wpAny_loadPart D2 ?_)))))))
  dsimp only
  rw [aRefKeyMayBeTheName_at]
  simp only [List.any_toArray, List.any_nil, Bool.and_false, Bool.false_eq_true, if_false]
  refine wpAny_updatePart D2 ?_
  refine wpAny_bind (wpAny_lookBehind D3 (pastItsLine_dict (by simp [sizeLine_eq])) ?_)
  refine wpAny_pure (wpAny_pure ?_)
  have := h s.heap.objs.size _ F3 (by rw [hgr]; exact N3) hsz
  exact this

/-- a name of a function's own dict read -/
theorem fn_get {Q : Value → Shared → Prop} {expr : Bool} {d : Addr} {od : Obj} {md : Str → Option Value} (hl : typeLookup (.type "function") name = pure none) (hf : s.heap.get? f = some (fnObj (some d) fd sl)) (hd : s.heap.get? d = some od) (hm : LCg.NsObj od md) (hv : md name = some v) (hh : handedIn v = true)
    (h : Q v { s with toks := s.toks + 1 }) : wpAny (model prog w) A (getAttr (.ref f) name expr) Q E s := by
  have ty : Looks (model prog w) s.heap (typeOf (.ref f)) (.type "function") := (Looks.ld (part := some headPart) hf).andThen .now
  have sub : Looks (model prog w) s.heap (isInstance (.ref f) (.type "object")) true := ty.andThen (.of_pure (by rw [isSubtype_type]; kernel_rfl))
  have ga : Looks (model prog w) s.heap (find (.ref f) (.type "function") name) (.value v) := by
    unfold find
    refine (Looks.of_pure hl).andThen ((Looks.of_pure (r := none) rfl).andThen ((Looks.of_pure (r := none) rfl).andThen ?_))
    unfold ownThenClass
    have own : Looks (model prog w) s.heap (inOwnDict name (.ref f)) (some v) := by
      intro A Q E s' k q
      show wpAny _ _ (ObjectAttr.ownDict f >>= inDict name) _ _ _
      refine wpAny_bind ?_
      unfold ObjectAttr.ownDict
      refine wpAny_bind (wpAny_loadPart (k _ _ hf) ?_)
      dsimp only
      unfold instanceDict
      refine wpAny_bind (wpAny_loadPart (k _ _ hf) ?_)
      dsimp only
      refine wpAny_pure ?_
      show wpAny _ _ (nsGet d name) _ _ _
      refine wpAny_nsGet (hm.ns (k _ _ hd)) ?_
      rw [hv]; exact q
    exact own.andThen (Looks.now (M := model prog w))
  unfold getAttr
  refine wpAny_bind (wpAny_mkText ?_)
  unfold getAttrBy
  refine wpAny_holding (wpAny_bind (ty.here (s := { s with toks := s.toks + 1 }) (wpAny_bind ?_)))
  rw [slot_fga.lookup]
  refine wpAny_pure ?_
  show wpAny _ _ (getAttrByItsOwn (.ref f) (.str name s.toks) (.type "function") (.builtin "object.__getattribute__") true expr) _ _ _
  unfold getAttrByItsOwn
  refine wpAny_bind (wpAny_pure (a := none) (wpAny_bind (wpAny_attempt (wpAny_holding ?_))))
  have e1 : callGetattribute (.ref f) (.str name s.toks) (.builtin "object.__getattribute__") expr = boundAndCalled (.builtin "object.__getattribute__") (.ref f) (.str name s.toks) := by
    unfold callGetattribute
    rw [if_neg (by simp [onTheHeap])]
  rw [e1]
  unfold boundAndCalled
  rw [slot_fga.bind]
  refine wpAny_bind (wpAny_pure (wpAny_call ?_))
  refine codeAny_call_builtin slot_fga.plain entry_oga (slot_fga.check _ _ _ _ _ _ _ _ (fn_typeIs (s := { s with toks := s.toks + 1 }) hf) (args_oga _ _) ?_)
  show wpAny _ _ (Builtin.«object.__getattribute__» ⟨[.ref f, .str name s.toks], []⟩) _ _ _
  unfold Builtin.«object.__getattribute__»
  refine wpAny_bind (wpAny_pure (a := (Value.ref f, [Value.str name s.toks])) (wpAny_bind (wpAny_pure (a := name) (wpAny_bind (ty.here (s := { s with toks := s.toks + 1 }) (wpAny_bind (ga.here (s := { s with toks := s.toks + 1 }) ?_)))))))
  refine wpAny_pure ?_
  show wpAny _ _ (handedOut v) _ _ _
  rw [handedOut_of hh]
  exact wpAny_pure h

theorem fn_method {Q : Value × List Value → Shared → Prop} {pl : Sem Bool} {d : Addr} {od : Obj} {md : Str → Option Value} (hl : typeLookup (.type "function") name = pure none) (hf : s.heap.get? f = some (fnObj (some d) fd sl)) (hd : s.heap.get? d = some od) (hm : LCg.NsObj od md) (hv : md name = some v) (hh : handedIn v = true)
    (h : Q (v, []) { s with toks := s.toks + 1 }) : wpAny (model prog w) A (getMethod (.ref f) name pl) Q E s := by
  have hT := fn_typeIs hf
  unfold getMethod
  refine wpAny_bind (wpAny_specialOf hT slot_fga.lookup ?_)
  dsimp only
  rw [if_neg (by decide +kernel)]
  refine wpAny_bind (wpAny_specialOf hT fn_no_getattr ?_)
  simp only [Option.isSome_none, Bool.false_eq_true, if_false]
  refine wpAny_bind (wpAny_specialOf hT hl ?_)
  dsimp only
  exact wpAny_bind (fn_get hl hf hd hm hv hh (wpAny_pure h))

theorem fn_truthy {Q : Bool → Shared → Prop} {d : Option Addr} (hf : s.heap.get? f = some (fnObj d fd sl)) (h : Q true s) : wpAny (model prog w) A (truthy (.ref f)) Q E s := by
  have hT := fn_typeIs hf
  unfold truthy
  refine wpAny_bind (wpAny_callSpecial?_none hT fn_no_bool ?_)
  dsimp only
  refine wpAny_bind (wpAny_specialOf hT fn_no_len ?_)
  exact wpAny_pure h
end
end Mine
end -- F1

section -- C0
open PySem PySem.W PyProof.Rows
set_option maxRecDepth 100000
set_option maxHeartbeats 8000000
namespace Mine
noncomputable abbrev PR : Program := PySem.Challenge.rw_pe0053_01.row.prog

noncomputable def worthTo (ns : List Int) (b : Int) : Nat → Int
  | 0 => 0
  | k + 1 => worthTo ns b k + ns.getD k 0 * b ^ k
noncomputable def carryAt (ls rs : List Int) (b : Int) : Nat → Int
  | 0 => 0
  | k + 1 => Int.fdiv (ls.getD k 0 + rs.getD k 0 + carryAt ls rs b k) b
noncomputable def totalAt (ls rs : List Int) (b : Int) (k : Nat) : Int := Int.fmod (ls.getD k 0 + rs.getD k 0 + carryAt ls rs b k) b
noncomputable def borrowAt (ls rs : List Int) : Nat → Int
  | 0 => 0
  | k + 1 => if ls.getD k 0 - rs.getD k 0 - borrowAt ls rs k < 0 then 1 else 0
noncomputable def remnantAt (ls rs : List Int) (b : Int) (k : Nat) : Int := ls.getD k 0 - rs.getD k 0 - borrowAt ls rs k + b * borrowAt ls rs (k + 1)

/-- the first place from i on whose item isn't v, or the row's end -/
noncomputable def nextGo (ns : List Int) (v : Int) : Nat → Nat → Nat
  | 0, i => i
  | k + 1, i => if i < ns.length ∧ ns.getD i 0 = v then nextGo ns v k (i + 1) else i
noncomputable def nextOff (ns : List Int) (v : Int) (i : Nat) : Nat := nextGo ns v (ns.length - i) i
theorem nextOff_step {ns : List Int} {v : Int} {i : Nat} (h : i < ns.length) (e : ns.getD i 0 = v) : nextOff ns v (i + 1) = nextOff ns v i := by
  have e2 : ns.length - i = (ns.length - (i + 1)) + 1 := by rw [Nat.sub_add_eq]; exact (Nat.sub_add_cancel (Nat.sub_pos_of_lt h)).symm
  unfold nextOff
  rw [e2]
  exact (if_pos ⟨h, e⟩).symm
theorem nextOff_stop {ns : List Int} {v : Int} {i : Nat} (h : ¬ (i < ns.length ∧ ns.getD i 0 = v)) : nextOff ns v i = i := by
  unfold nextOff
  cases ns.length - i with
  | zero => rfl
  | succ k => exact if_neg h
noncomputable def chainFind (ns : List Int) (v : Int) (pl : Nat) : Option (Int × Int) := if nextOff ns v pl < ns.length then some ((nextOff ns v pl : Int), (nextOff ns v (nextOff ns v pl + 1) : Int)) else none
noncomputable def unlikeFind (ns : List Int) (pl : Nat) : Option (Int × Int) := if nextOff ns 0 pl < ns.length then some ((nextOff ns 0 pl : Int), (nextOff ns 0 pl : Int)) else none
noncomputable def Small (ns : List Int) : Prop := ∀ j : Nat, Builtin.Int.intBits (ns.getD j 0) ≤ 64
theorem Small.left {ns : List Int} {j : Nat} {b : Int} (h : Small ns) : IntMulOk (ns.getD j 0) b := .of_left (h j)
theorem range_map_getD {f : Nat → Int} {n k : Nat} (h : k < n) : ((List.range n).map f).getD k 0 = f k := by simp [List.getD, h]
theorem range_map_succ {f : Nat → Int} {n : Nat} : (List.range (n + 1)).map f = (List.range n).map f ++ [f n] := by simp [List.range_succ]
theorem borrow_le {ls rs : List Int} {k : Nat} : borrowAt ls rs k = 0 ∨ borrowAt ls rs k = 1 := by
  cases k with
  | zero => exact .inl rfl
  | succ k => simp only [borrowAt]; split <;> simp
theorem added_start {ls rs : List Int} {b : Int} : ([] : List Int).length = ([] : List Int).length ∧ [(0 : Int)].length = ([] : List Int).length + 1 ∧ ([] : List Int) = (List.range ([] : List Int).length).map (totalAt ls rs b) ∧ [(0 : Int)] = (List.range (([] : List Int).length + 1)).map (carryAt ls rs b) := by simp [carryAt]
theorem added_step {ls rs f c pre : List Int} {b k : Int} (hk : k = 0 + (pre.length : Int)) (hf : f = (List.range pre.length).map (totalAt ls rs b)) (hc : c = (List.range (pre.length + 1)).map (carryAt ls rs b)) :
    (f ++ [Int.fmod (ls.getD k.toNat 0 + rs.getD k.toNat 0 + c.getD k.toNat 0) b]).length = (pre ++ [k]).length ∧
    (c ++ [Int.fdiv (ls.getD k.toNat 0 + rs.getD k.toNat 0 + c.getD k.toNat 0) b]).length = (pre ++ [k]).length + 1 ∧
    (f ++ [Int.fmod (ls.getD k.toNat 0 + rs.getD k.toNat 0 + c.getD k.toNat 0) b]) = (List.range (pre ++ [k]).length).map (totalAt ls rs b) ∧
    (c ++ [Int.fdiv (ls.getD k.toNat 0 + rs.getD k.toNat 0 + c.getD k.toNat 0) b]) = (List.range ((pre ++ [k]).length + 1)).map (carryAt ls rs b) := by
  have e : k.toNat = pre.length := by omega
  have e2 : c.getD pre.length 0 = carryAt ls rs b pre.length := by rw [hc, range_map_getD (by omega)]
  rw [e, e2, hf, hc]
  simp only [List.length_append, List.length_map, List.length_range, List.length_singleton]
  refine ⟨trivial, trivial, ?_, ?_⟩
  · rw [range_map_succ]; rfl
  · rw [range_map_succ (n := pre.length + 1)]; rfl
theorem taken_start {ls rs : List Int} {b : Int} : ([] : List Int).length = ([] : List Int).length ∧ [(0 : Int)].length = ([] : List Int).length + 1 ∧ ([] : List Int) = (List.range ([] : List Int).length).map (remnantAt ls rs b) ∧ [(0 : Int)] = (List.range (([] : List Int).length + 1)).map (borrowAt ls rs) := by simp [borrowAt]
theorem taken_step {ls rs f c pre : List Int} {b k v : Int} (hk : k = 0 + (pre.length : Int)) (hf : f = (List.range pre.length).map (remnantAt ls rs b)) (hc : c = (List.range (pre.length + 1)).map (borrowAt ls rs))
    (hv : v = borrowAt ls rs (pre.length + 1)) :
    (f ++ [ls.getD k.toNat 0 - rs.getD k.toNat 0 - c.getD k.toNat 0 + b * (c ++ [v]).getD (k + 1).toNat 0]).length = (pre ++ [k]).length ∧
    (c ++ [v]).length = (pre ++ [k]).length + 1 ∧
    (f ++ [ls.getD k.toNat 0 - rs.getD k.toNat 0 - c.getD k.toNat 0 + b * (c ++ [v]).getD (k + 1).toNat 0]) = (List.range (pre ++ [k]).length).map (remnantAt ls rs b) ∧
    (c ++ [v]) = (List.range ((pre ++ [k]).length + 1)).map (borrowAt ls rs) := by
  have e : k.toNat = pre.length := by omega
  have e1 : (k + 1).toNat = pre.length + 1 := by omega
  have e2 : c.getD pre.length 0 = borrowAt ls rs pre.length := by rw [hc, range_map_getD (by omega)]
  have hl : c.length = pre.length + 1 := by rw [hc]; simp
  have e3 : (c ++ [v]).getD (pre.length + 1) 0 = borrowAt ls rs (pre.length + 1) := by
    rw [← hv, ← hl]; simp [List.getD]
  rw [e, e1, e2, e3, hf, hc, hv]
  simp only [List.length_append, List.length_map, List.length_range, List.length_singleton]
  refine ⟨trivial, trivial, ?_, ?_⟩
  · rw [range_map_succ]; rfl
  · rw [range_map_succ (n := pre.length + 1)]
theorem taken_lt {ls rs c pre : List Int} {k : Int} (hk : k = 0 + (pre.length : Int)) (hc : c = (List.range (pre.length + 1)).map (borrowAt ls rs)) : ls.getD k.toNat 0 - rs.getD k.toNat 0 - c.getD k.toNat 0 = ls.getD pre.length 0 - rs.getD pre.length 0 - borrowAt ls rs pre.length := by
  have e : k.toNat = pre.length := by omega
  have e2 : c.getD pre.length 0 = borrowAt ls rs pre.length := by rw [hc, range_map_getD (by omega)]
  rw [e, e2]
theorem taken_step1 {ls rs f c pre : List Int} {b k : Int} (hk : k = 0 + (pre.length : Int)) (hf : f = (List.range pre.length).map (remnantAt ls rs b)) (hc : c = (List.range (pre.length + 1)).map (borrowAt ls rs))
    (hv : ls.getD k.toNat 0 - rs.getD k.toNat 0 - c.getD k.toNat 0 < 0) :
    (f ++ [ls.getD k.toNat 0 - rs.getD k.toNat 0 - c.getD k.toNat 0 + b * (c ++ [1]).getD (k + 1).toNat 0]).length = (pre ++ [k]).length ∧
    (c ++ [1]).length = (pre ++ [k]).length + 1 ∧
    (f ++ [ls.getD k.toNat 0 - rs.getD k.toNat 0 - c.getD k.toNat 0 + b * (c ++ [1]).getD (k + 1).toNat 0]) = (List.range (pre ++ [k]).length).map (remnantAt ls rs b) ∧
    (c ++ [1]) = (List.range ((pre ++ [k]).length + 1)).map (borrowAt ls rs) :=
  taken_step hk hf hc (by rw [taken_lt hk hc] at hv; simp only [borrowAt]; rw [if_pos hv])
theorem taken_step0 {ls rs f c pre : List Int} {b k : Int} (hk : k = 0 + (pre.length : Int)) (hf : f = (List.range pre.length).map (remnantAt ls rs b)) (hc : c = (List.range (pre.length + 1)).map (borrowAt ls rs))
    (hv : ¬ ls.getD k.toNat 0 - rs.getD k.toNat 0 - c.getD k.toNat 0 < 0) :
    (f ++ [ls.getD k.toNat 0 - rs.getD k.toNat 0 - c.getD k.toNat 0 + b * (c ++ [0]).getD (k + 1).toNat 0]).length = (pre ++ [k]).length ∧
    (c ++ [0]).length = (pre ++ [k]).length + 1 ∧
    (f ++ [ls.getD k.toNat 0 - rs.getD k.toNat 0 - c.getD k.toNat 0 + b * (c ++ [0]).getD (k + 1).toNat 0]) = (List.range (pre ++ [k]).length).map (remnantAt ls rs b) ∧
    (c ++ [0]) = (List.range ((pre ++ [k]).length + 1)).map (borrowAt ls rs) :=
  taken_step hk hf hc (by rw [taken_lt hk hc] at hv; simp only [borrowAt]; rw [if_neg hv])

/-- a mark at which the walk stands still -/
structure Stop (P : Prop) : Prop where
  of :: 
  out : P

noncomputable abbrev pairObj (a : Int) (t : Tok) (b : Int) (u : Tok) : Obj := { cls := .type "tuple", data := .seq #[.int a t, .int b u] }
/-- the values are tuples of two ints that the ledger holds -/
inductive Pairs (news : List (Addr × Obj)) : List Value → List (Int × Int) → Prop
  | nil : Pairs news [] []
  | cons {r : Addr} {a b : Int} {t u : Tok} {vs : List Value} {ps : List (Int × Int)} : (r, pairObj a t b u) ∈ news → Pairs news vs ps → Pairs news (.ref r :: vs) ((a, b) :: ps)
theorem Pairs.mono {n n' : List (Addr × Obj)} (hs : ∀ p ∈ n, p ∈ n') : ∀ {vs : List Value} {ps : List (Int × Int)}, Pairs n vs ps → Pairs n' vs ps
  | _, _, .nil => .nil
  | _, _, .cons h r => .cons (hs _ h) (r.mono hs)
theorem Pairs.snoc {n : List (Addr × Obj)} {r : Addr} {a b : Int} {t u : Tok} : ∀ {vs : List Value} {ps : List (Int × Int)}, Pairs n vs ps → (r, pairObj a t b u) ∈ n → Pairs n (vs ++ [.ref r]) (ps ++ [(a, b)])
  | _, _, .nil, h => .cons h .nil
  | _, _, .cons h r, h' => .cons h (r.snoc h')
theorem Pairs.new {tl : List (Addr × Obj)} {r : Addr} {a b : Int} {t u : Tok} {vs : List Value} {ps : List (Int × Int)} {q : Int × Int} (h : Pairs tl vs ps) (e : (a, b) = q) : Pairs (tl ++ [(r, pairObj a t b u)]) (vs ++ [.ref r]) (ps ++ [q]) :=
  e ▸ (h.mono fun _ hp => List.mem_append_left _ hp).snoc (List.mem_append_right _ (List.mem_singleton.mpr rfl))
theorem Pairs.length {n : List (Addr × Obj)} : ∀ {vs : List Value} {ps : List (Int × Int)}, Pairs n vs ps → vs.length = ps.length
  | _, _, .nil => rfl
  | _, _, .cons _ r => by simp [r.length]
theorem allLt_mono {d e : Nat} (h : d ≤ e) : ∀ {l : List (Addr × Obj)}, AllLt d l → AllLt e l
  | [], _ => trivial
  | _ :: _, x => ⟨Nat.lt_of_lt_of_le x.1 h, allLt_mono h x.2⟩
theorem allLt_app {d : Nat} : ∀ {l l' : List (Addr × Obj)}, AllLt d (l ++ l') → AllLt d l
  | [], _, _ => trivial
  | _ :: _, _, h => ⟨h.1, allLt_app h.2⟩
theorem off1_app {D : Addr} : ∀ {l : List (Addr × Obj)}, LCg.Off1 D l → ∀ p ∈ l, p.1 ≠ D
  | [], _, _, h => nomatch h
  | _ :: _, x, p, h => by
    rcases List.mem_cons.mp h with rfl | h
    · exact x.1
    · exact off1_app x.2 p h
theorem ne_above {d e : Nat} {l : List (Addr × Obj)} (h : AllLt d l) (hd : d ≤ e) : ∀ p ∈ l, p.1 ≠ e := fun p hp => Nat.ne_of_lt (Nat.lt_of_lt_of_le (kst_ltOf h p hp) hd)

/-- the frames agree off some names -/
noncomputable def Off (xs : List Str) (m m' : Str → Option Value) : Prop := ∀ z, xs.contains z = false → m' z = m z
theorem off_refl {xs : List Str} {m : Str → Option Value} : Off xs m m := fun _ _ => rfl
theorem off_if {xs : List Str} {m f : Str → Option Value} {x : Str} {v : Option Value} (hx : xs.contains x = true) (h : Off xs m f) : Off xs m (fun y => if y = x then v else f y) := fun z hz => by
  dsimp only
  split
  · rename_i e
    rw [e, hx] at hz; cases hz
  · exact h z hz
theorem off_same {xs : List Str} {m f : Str → Option Value} {x : Str} {v : Option Value} (hm : m x = v) (h : Off xs m f) : Off xs m (fun y => if y = x then v else f y) := fun z hz => by
  dsimp only
  split
  · rename_i e
    rw [e]; exact hm.symm
  · exact h z hz
theorem fr_as {h₀ h : Heap} {L : Addr} {m : Str → Option Value} (F : Fr h₀ L h m) (ps : List (Str × Value)) (hp : ∀ p ∈ ps, m p.1 = some p.2) : Fr h₀ L h (kstB m ps) := by
  have e : kstB m ps = m := by
    funext z
    exact kstB_eq hp fun _ => rfl
  rw [e]; exact F
/-- the frame holds these names -/
noncomputable def FrOk (m : Str → Option Value) : List (Str × Value) → Prop
  | [] => True
  | p :: r => m p.1 = some p.2 ∧ FrOk m r
theorem FrOk.all {m : Str → Option Value} : ∀ {ps : List (Str × Value)}, FrOk m ps → ∀ p ∈ ps, m p.1 = some p.2
  | _ :: _, h, _, .head _ => h.1
  | _ :: _, h, _, .tail _ q => h.2.all _ q
theorem fr_gen {h₀ h : Heap} {L : Addr} {m : Str → Option Value} (F : Fr h₀ L h m) (ps : List (Str × Value)) (hp : FrOk m ps) : ∃ m', Fr h₀ L h (kstB m' ps) := ⟨m, fr_as F ps hp.all⟩
theorem fr_open {h₀ h : Heap} {L : Addr} {m : Str → Option Value} (F : Fr h₀ L h m) (ps : List (Str × Value)) (hp : FrOk m ps) : ∃ m', Fr h₀ L h m' ∧ FrOk m' ps := ⟨m, F, hp⟩
theorem sub_c {a : Addr × Obj} {l l' : List (Addr × Obj)} (h : a ∈ l) (hs : ∀ p ∈ l', p ∈ l) : ∀ p ∈ a :: l', p ∈ l := fun p hp => by
  rcases List.mem_cons.mp hp with rfl | hp
  · exact h
  · exact hs p hp
theorem sub_id {l : List (Addr × Obj)} : ∀ p ∈ l, p ∈ l := fun _ hp => hp
theorem sub_t {a : Addr × Obj} {l l' : List (Addr × Obj)} (hs : ∀ p ∈ l', p ∈ l) : ∀ p ∈ l', p ∈ a :: l := fun p hp => .tail _ (hs p hp)
theorem sub_l {l l' k : List (Addr × Obj)} (hs : ∀ p ∈ l', p ∈ l) : ∀ p ∈ l', p ∈ l ++ k := fun p hp => List.mem_append_left _ (hs p hp)
theorem sub_r {l l' k : List (Addr × Obj)} (hs : ∀ p ∈ l', p ∈ l) : ∀ p ∈ l', p ∈ k ++ l := fun p hp => List.mem_append_right _ (hs p hp)
theorem sub_o {l l' k : List (Addr × Obj)} (h : ∀ p ∈ l, p ∈ k) (h' : ∀ p ∈ l', p ∈ k) : ∀ p ∈ l ++ l', p ∈ k := fun p hp => by
  rcases List.mem_append.mp hp with hp | hp
  · exact h p hp
  · exact h' p hp
theorem sub_n {l : List (Addr × Obj)} : ∀ p ∈ ([] : List (Addr × Obj)), p ∈ l := fun _ h => nomatch h
theorem fr_n {m : Str → Option Value} : ∀ p ∈ ([] : List (Str × Value)), m p.1 = some p.2 := fun _ h => nomatch h
theorem fr_c {m : Str → Option Value} {x : Str} {v : Value} {ps : List (Str × Value)} (h : m x = some v) (t : ∀ p ∈ ps, m p.1 = some p.2) : ∀ p ∈ (x, v) :: ps, m p.1 = some p.2
  | _, .head _ => h
  | _, .tail _ q => t _ q
theorem not_in {ps : List (Str × Value)} {z : Str} (h : ∀ p ∈ ps, z ≠ p.1) : (ps.map Prod.fst).contains z = false := by
  simp only [List.contains_eq_mem, decide_eq_false_iff_not, List.mem_map]
  rintro ⟨p, hp, e⟩
  exact h p hp e.symm
theorem off_rest {ps : List (Str × Value)} {stored : List Str} {m m' : Str → Option Value} (h : Off (ps.map Prod.fst) m m') : ∀ z, (∀ p ∈ ps, z ≠ p.1) → stored.contains z = false → m' z = m z := fun z hz _ => h z (not_in hz)
/-- the parts of a def that stands in the text's n-th statement's body at place k -/
noncomputable def defParts : Stmt → Arguments × List Stmt × Scope
  | .FunctionDef _ args body _ _ _ scope _ _ _ => (args, body, scope)
  | _ => default
noncomputable def partsAt (n k : Nat) : Arguments × List Stmt × Scope := defParts ((defParts (PySem.Challenge.pw_pe0053_01.main.body.getD n (.Pass ⟨0, 0, 0, 0⟩))).2.1.getD k (.Pass ⟨0, 0, 0, 0⟩))
noncomputable def lawParts : Arguments × List Stmt × Scope := defParts (PySem.Challenge.pw_pe0053_01.main.body.getD 22 (.Pass ⟨0, 0, 0, 0⟩))
noncomputable def lawRest (k : Nat) : List Stmt := lawParts.2.1.drop k
noncomputable def rightOf (base x : Int) : Int :=
  if Int.fmod (Int.fdiv x base) 3 = 0 then base - 1 - Int.fmod x base
  else if Int.fmod (Int.fdiv x base) 3 = 1 then Int.fmod x base
  else Int.fmod (Int.fdiv (Int.fdiv x base) 3) base
theorem right_start {b : Int} : ([] : List Int).length = ([] : List Int).length ∧ ([] : List Int) = ([] : List Int).map (rightOf b) := ⟨rfl, rfl⟩
theorem right_step0 {f pre : List Int} {b x : Int} (hf : f = pre.map (rightOf b)) (h : Int.fmod (Int.fdiv x b) 3 = 0) : (f ++ [b - 1 - Int.fmod x b]).length = (pre ++ [x]).length ∧ f ++ [b - 1 - Int.fmod x b] = (pre ++ [x]).map (rightOf b) := by
  subst hf; simp [rightOf, h]
theorem right_step1 {f pre : List Int} {b x : Int} (hf : f = pre.map (rightOf b)) (h0 : ¬ Int.fmod (Int.fdiv x b) 3 = 0) (h : Int.fmod (Int.fdiv x b) 3 = 1) : (f ++ [Int.fmod x b]).length = (pre ++ [x]).length ∧ f ++ [Int.fmod x b] = (pre ++ [x]).map (rightOf b) := by
  subst hf; simp [rightOf, h]
theorem right_step2 {f pre : List Int} {b x : Int} (hf : f = pre.map (rightOf b)) (h0 : ¬ Int.fmod (Int.fdiv x b) 3 = 0) (h : ¬ Int.fmod (Int.fdiv x b) 3 = 1) : (f ++ [Int.fmod (Int.fdiv (Int.fdiv x b) 3) b]).length = (pre ++ [x]).length ∧ f ++ [Int.fmod (Int.fdiv (Int.fdiv x b) 3) b] = (pre ++ [x]).map (rightOf b) := by
  subst hf; simp [rightOf, h, h0]
theorem fmod_dig {x b : Int} (hb : 2 ≤ b) : 0 ≤ Int.fmod x b ∧ Int.fmod x b < b := ⟨Int.fmod_nonneg_of_pos _ (by omega), Int.fmod_lt_of_pos _ (by omega)⟩
theorem right_dig {x b : Int} (hb : 2 ≤ b) : 0 ≤ rightOf b x ∧ rightOf b x < b := by
  have h1 := fmod_dig (x := x) hb
  have h2 := fmod_dig (x := Int.fdiv (Int.fdiv x b) 3) hb
  unfold rightOf
  split
  · omega
  · split
    · exact h1
    · exact h2
theorem Small.dig {x b : Int} (h : 0 ≤ x ∧ x < b) (hb' : b ≤ 10) : Builtin.Int.intBits x ≤ 64 := PySem.intBits_le_64 (by omega) (by omega)
theorem small_map {f : Int → Int} {ds : List Int} (h : ∀ y, Builtin.Int.intBits (f y) ≤ 64) : Small (ds.map f) := by
  intro j
  by_cases hj : j < ds.length
  · rw [show (ds.map f).getD j 0 = f ds[j] by simp [List.getD, hj]]
    exact h _
  · rw [show (ds.map f).getD j 0 = 0 by simp [List.getD, Nat.not_lt.mp hj]]
    exact PySem.intBits_le_64 (by omega) (by omega)
noncomputable def hitQual : Str := qualnameIn (envOfC (Str.ofString "_law_hit") (defParts (PySem.Challenge.pw_pe0053_01.main.body.getD 15 (.Pass ⟨0, 0, 0, 0⟩))).2.2 0 105 (.ref 104)) (Str.ofString "hit") (Str.ofString "hit")
noncomputable abbrev hitFd (ci cj : Addr) (doc pm : Value) (c' : Addr) (ctv : Value) : FuncData := fnX "hit" hitQual (partsAt 15 0).1 (partsAt 15 0).2.1 (partsAt 15 0).2.2 [(Str.ofString "j", cj), (Str.ofString "i", ci)] .none .none doc pm none (.ref c') ctv
/-- the code object of the inner def -/
structure CodeOf (q : Str) (c' : Addr) (oc : Obj) : Prop where
  out : ∃ vs t, oc.data = .fields vs ∧ vs[1]? = some (.str q t)
/-- a match of two places stands in the ledger -/
inductive HitIn (news : List (Addr × Obj)) (q : Addr) (i j : Int) : Prop
  | mk {d ci cj c' : Addr} {od oi oj oc : Obj} {ti tj : Tok} {doc pm ctv : Value} {sl : Array (Option Value)} :
    (q, fnObj (some d) (hitFd ci cj doc pm c' ctv) sl) ∈ news → (d, od) ∈ news → LCg.NsObj od (fun x => if x = Str.ofString "span" then some (.ref q) else none) →
    (ci, oi) ∈ news → oi.data = .cell (some (.int i ti)) → (cj, oj) ∈ news → oj.data = .cell (some (.int j tj)) → (c', oc) ∈ news → CodeOf hitQual c' oc → HitIn news q i j
theorem HitIn.mono {n n' : List (Addr × Obj)} {q : Addr} {i j : Int} (hs : ∀ p ∈ n, p ∈ n') : HitIn n q i j → HitIn n' q i j
  | .mk h1 h2 h3 h4 h5 h6 h7 h8 h9 => .mk (hs _ h1) (hs _ h2) h3 (hs _ h4) h5 (hs _ h6) h7 (hs _ h8) h9
/-- the table of the inner code: still empty, or with the one code -/
inductive HitTab (news : List (Addr × Obj)) : Array Value → Prop
  | empty : HitTab news #[]
  | full {c' : Addr} {oc : Obj} : (c', oc) ∈ news → CodeOf hitQual c' oc → HitTab news #[rawInt 43, rawInt 4, .ref c']
theorem HitTab.mono {n n' : List (Addr × Obj)} {ps : Array Value} (hs : ∀ p ∈ n, p ∈ n') : HitTab n ps → HitTab n' ps
  | .empty => .empty
  | .full h1 h2 => .full (hs _ h1) h2
/-- an object that is no code object -/
noncomputable def NoCode (o : Obj) : Prop := ∀ vs, o.data ≠ .fields vs
theorem HitTab.only {n n' : List (Addr × Obj)} {ps : Array Value} (hs : ∀ p ∈ n, p ∈ n' ∨ NoCode p.2) : HitTab n ps → HitTab n' ps
  | .empty => .empty
  | .full h1 h2 => (hs _ h1).elim (fun h => .full h h2) fun h => by
    obtain ⟨vs, t, e1, _⟩ := h2.out
    exact absurd e1 (h vs)
theorem noCode_list {vs : Array Value} {n : Nat} : NoCode (W.listOf vs n) := fun _ e => by cases e
theorem noCode_cell {o : Obj} {v : Option Value} (h : o.data = .cell v) : NoCode o := fun _ e => by rw [h] at e; cases e
theorem nsObj_one {h : Int} {name : Str} {t : Tok} {v : Value} : LCg.NsObj (dictOf [⟨h, .str name t, v⟩] 1) (fun x => if x = name then some v else none) := by
  refine ⟨_, _, rfl, ?_, ?_⟩
  · intro e he
    simp only [List.mem_toArray, List.mem_singleton] at he
    subst he
    exact ⟨_, _, rfl⟩
  · intro n
    unfold nsFind findBy
    simp only [List.find?_toArray, List.find?_cons, List.find?_nil]
    by_cases e : n = name
    · subst e; simp [Value.isStr]
    · have : (Value.str name t).isStr n = false := by
        simp only [Value.isStr]
        simpa using fun q => e q.symm
      simp [this, e]

theorem hit_done {h₀ h' : Heap} {L : Addr} {news : List (Addr × Obj)} {f d ci cj c : Addr} {i j hs : Int} {ti tj ts : Tok} {oi oj oc : Obj} {doc pm ctv : Value} {sl : Array (Option Value)} {ps ps' : Array Value} {P : Prop}
    (N : News h₀ L h' ((d, dictOf [⟨hs, .str (Str.ofString "span") ts, .ref f⟩] 1) :: (f, fnObj (some d) (hitFd ci cj doc pm c ctv) sl) :: (cj, oj) :: (ci, oi) :: (100, tabObj ps') :: news))
    (hi : oi.data = .cell (some (.int i ti))) (hj : oj.data = .cell (some (.int j tj))) (hc : (c, oc) ∈ news) (hco : CodeOf hitQual c oc) (hT : HitTab news ps')
    (hlt : AllLt ci ((100, tabObj ps) :: news)) (h1 : @LT.lt Nat _ ci cj) (h2 : @LT.lt Nat _ cj f) (h3 : @LT.lt Nat _ f d)
    (k : ∀ tl, News h₀ L h' ((100, tabObj ps') :: (tl ++ news)) → HitTab (tl ++ news) ps' → HitIn (tl ++ news) f i j → (∀ p ∈ tl, AllLt p.1 ((100, tabObj ps) :: news)) → P) : P := by
  refine k [(d, dictOf [⟨hs, .str (Str.ofString "span") ts, .ref f⟩] 1), (f, fnObj (some d) (hitFd ci cj doc pm c ctv) sl), (cj, oj), (ci, oi)] (kst_newsOf N fun p hp => ?_) (hT.mono fun p hp => List.mem_append_right _ hp)
    (.mk (.tail _ (.head _)) (.head _) nsObj_one (.tail _ (.tail _ (.tail _ (.head _)))) hi (.tail _ (.tail _ (.head _))) hj (List.mem_append_right _ hc) hco) fun p hp => ?_
  · simp only [List.cons_append, List.nil_append, List.mem_cons] at hp ⊢
    rcases hp with h | h | h | h | h | h <;> simp only [h, true_or, or_true]
  · simp only [List.mem_cons, List.not_mem_nil, or_false] at hp
    rcases hp with rfl | rfl | rfl | rfl <;> exact allLt_mono (by dsimp only; omega) hlt
theorem hit_done1 {h₀ h' : Heap} {L : Addr} {news : List (Addr × Obj)} {f d ci cj c : Addr} {i j hs : Int} {ti tj ts : Tok} {oi oj oc : Obj} {doc pm ctv : Value} {sl : Array (Option Value)} {ps : Array Value} {P : Prop}
    (N : News h₀ L h' ((d, dictOf [⟨hs, .str (Str.ofString "span") ts, .ref f⟩] 1) :: (f, fnObj (some d) (hitFd ci cj doc pm c ctv) sl) :: (c, oc) :: (cj, oj) :: (ci, oi) :: (100, tabObj #[rawInt 43, rawInt 4, .ref c]) :: news))
    (hi : oi.data = .cell (some (.int i ti))) (hj : oj.data = .cell (some (.int j tj))) (hco : CodeOf hitQual c oc)
    (hlt : AllLt ci ((100, tabObj ps) :: news)) (h1 : @LT.lt Nat _ ci cj) (h2 : @LT.lt Nat _ cj c) (h4 : @LT.lt Nat _ c f) (h3 : @LT.lt Nat _ f d)
    (k : ∀ tl, News h₀ L h' ((100, tabObj #[rawInt 43, rawInt 4, .ref c]) :: (tl ++ news)) → HitTab (tl ++ news) #[rawInt 43, rawInt 4, .ref c] → HitIn (tl ++ news) f i j → (∀ p ∈ tl, AllLt p.1 ((100, tabObj ps) :: news)) → P) : P := by
  refine k [(d, dictOf [⟨hs, .str (Str.ofString "span") ts, .ref f⟩] 1), (f, fnObj (some d) (hitFd ci cj doc pm c ctv) sl), (c, oc), (cj, oj), (ci, oi)] (kst_newsOf N fun p hp => ?_) (.full (.tail _ (.tail _ (.head _))) hco)
    (.mk (.tail _ (.head _)) (.head _) nsObj_one (.tail _ (.tail _ (.tail _ (.tail _ (.head _))))) hi (.tail _ (.tail _ (.tail _ (.head _)))) hj (.tail _ (.tail _ (.head _))) hco) fun p hp => ?_
  · simp only [List.cons_append, List.nil_append, List.mem_cons] at hp ⊢
    rcases hp with h | h | h | h | h | h | h <;> simp only [h, true_or, or_true]
  · simp only [List.mem_cons, List.not_mem_nil, or_false] at hp
    rcases hp with rfl | rfl | rfl | rfl | rfl <;> exact allLt_mono (by dsimp only; omega) hlt

/-- what a finder gives back -/
inductive Found (news : List (Addr × Obj)) : Value → Option (Int × Int) → Prop
  | none : Found news .none none
  | some {q : Addr} {i j : Int} : HitIn news q i j → Found news (.ref q) (some (i, j))
theorem Found.mono {n n' : List (Addr × Obj)} {v : Value} {o : Option (Int × Int)} (hs : ∀ p ∈ n, p ∈ n') : Found n v o → Found n' v o
  | .none => .none
  | .some h => .some (h.mono hs)
theorem small_row {pl n : Nat} (h : n ≤ 9) (h2 : pl ≤ n) : Builtin.Range.small (pl : Int) (n : Int) 1 = true := small_one (by omega) (by omega) (by omega) (by omega)
theorem nextOff_inv {ns : List Int} {pl k : Nat} {v i : Int} (hi : i = (pl : Int) + (k : Int)) (hk : k < ((ns.length : Int) - (pl : Int)).toNat) (h : nextOff ns v (pl + k) = nextOff ns v pl) (e : ns.getD i.toNat 0 = v) : nextOff ns v (pl + (k + 1)) = nextOff ns v pl := by
  have e1 : i.toNat = pl + k := by omega
  rw [e1] at e
  rw [← h, ← nextOff_step (by omega) e]
  rfl
theorem nextOff_turn {ns pre : List Int} {pl : Nat} {v i : Int} (hi : i = (pl : Int) + (pre.length : Int)) (hk : pre.length < ((ns.length : Int) - (pl : Int)).toNat) (h : nextOff ns v (pl + pre.length) = nextOff ns v pl) (e : ns.getD i.toNat 0 = v) : nextOff ns v (pl + (pre ++ [i]).length) = nextOff ns v pl := by
  rw [List.length_append, List.length_singleton]
  exact nextOff_inv hi hk h e
theorem unlike_hit {ns pre : List Int} {pl : Nat} {i : Int} (hi : i = (pl : Int) + (pre.length : Int)) (hk : pre.length < ((ns.length : Int) - (pl : Int)).toNat) (h : nextOff ns 0 (pl + pre.length) = nextOff ns 0 pl) (e : ns.getD i.toNat 0 ≠ 0) : unlikeFind ns pl = some (i, i) := by
  have e1 : i.toNat = pl + pre.length := by omega
  rw [e1] at e
  have e2 : nextOff ns 0 pl = pl + pre.length := by rw [← h]; exact nextOff_stop fun q => e q.2
  unfold unlikeFind
  rw [e2, if_pos (by omega)]
  congr 2 <;> omega
theorem unlike_miss {ns : List Int} {pl : Nat} (hpl : pl ≤ ns.length) (h : nextOff ns 0 (pl + ((ns.length : Int) - (pl : Int)).toNat) = nextOff ns 0 pl) : unlikeFind ns pl = none := by
  have e1 : pl + ((ns.length : Int) - (pl : Int)).toNat = ns.length := by omega
  rw [e1, nextOff_stop (by omega)] at h
  unfold unlikeFind
  rw [← h, if_neg (by omega)]
theorem chain_miss {ns : List Int} {v : Int} {pl k : Nat} (h : nextOff ns v k = nextOff ns v pl) (hk : ¬ ((k : Int) < (ns.length : Int))) : chainFind ns v pl = none := by
  unfold chainFind
  rw [← h, nextOff_stop (by omega), if_neg (by omega)]
theorem chain_hit {ns : List Int} {v : Int} {pl k j : Nat} (h : nextOff ns v k = nextOff ns v pl) (hk : k < ns.length) (e : ns.getD k 0 ≠ v) (h2 : nextOff ns v j = nextOff ns v (k + 1)) (hj : ¬ (j < ns.length ∧ ns.getD j 0 = v)) : chainFind ns v pl = some ((k : Int), (j : Int)) := by
  have e1 : nextOff ns v pl = k := by rw [← h]; exact nextOff_stop fun q => e q.2
  have e2 : nextOff ns v (k + 1) = j := by rw [← h2]; exact nextOff_stop hj
  unfold chainFind
  rw [e1, if_pos hk, e2]
theorem sub_in {a : Addr × Obj} {l : List (Addr × Obj)} (h : a ∈ l) : ∀ p ∈ a :: l, p ∈ l := fun p hp => by
  rcases List.mem_cons.mp hp with rfl | hp
  · exact h
  · exact hp
theorem sub_in2 {a b : Addr × Obj} {l : List (Addr × Obj)} (h : a ∈ l) (h' : b ∈ l) : ∀ p ∈ a :: b :: l, p ∈ l := fun p hp => by
  rcases List.mem_cons.mp hp with rfl | hp
  · exact h
  · exact sub_in h' p hp
theorem sub_drop2 {a b : Addr × Obj} {l : List (Addr × Obj)} : ∀ p ∈ l, p ∈ a :: b :: l := fun _ hp => .tail _ (.tail _ hp)
theorem sub_drop3 {a b c : Addr × Obj} {l : List (Addr × Obj)} : ∀ p ∈ l, p ∈ a :: b :: c :: l := fun _ hp => .tail _ (.tail _ (.tail _ hp))
theorem sub_app {a b c : List (Addr × Obj)} : ∀ p ∈ b ++ c, p ∈ (a ++ b) ++ c := fun p hp => by
  rw [List.append_assoc]; exact List.mem_append_right _ hp
theorem sub_keep3 {a b c : Addr × Obj} {l l' : List (Addr × Obj)} (h : ∀ p ∈ l, p ∈ l') : ∀ p ∈ a :: b :: c :: l, p ∈ a :: b :: c :: l' := fun p hp => by
  simp only [List.mem_cons] at hp ⊢
  rcases hp with e | e | e | e
  · exact .inl e
  · exact .inr (.inl e)
  · exact .inr (.inr (.inl e))
  · exact .inr (.inr (.inr (h p e)))
theorem sub_keep1 {a : Addr × Obj} {l l' : List (Addr × Obj)} (h : ∀ p ∈ l, p ∈ l') : ∀ p ∈ a :: l, p ∈ a :: l' := fun p hp => by
  simp only [List.mem_cons] at hp ⊢
  rcases hp with e | e
  · exact .inl e
  · exact .inr (h p e)
theorem sub_keep2 {a b : Addr × Obj} {l l' : List (Addr × Obj)} (h : ∀ p ∈ l, p ∈ l') : ∀ p ∈ a :: b :: l, p ∈ a :: b :: l' := sub_keep1 (sub_keep1 h)
theorem mem_perm {l l' : List (Addr × Obj)} (h : ∀ p, p ∈ l → p ∈ l') : ∀ p ∈ l, p ∈ l' := h
theorem sub_mid {a b : Addr × Obj} {l k : List (Addr × Obj)} : ∀ p ∈ b :: l, p ∈ a :: b :: (l ++ k) := fun p hp => by
  rcases List.mem_cons.mp hp with rfl | hp
  · exact .tail _ (.head _)
  · exact .tail _ (.tail _ (List.mem_append_left _ hp))
theorem sub_perm1 {a b : Addr × Obj} {l k : List (Addr × Obj)} : ∀ p ∈ b :: a :: (l ++ k), p ∈ a :: b :: (l ++ k) := fun p hp => by
  simp only [List.mem_cons] at hp ⊢
  rcases hp with h | h | h <;> simp only [h, true_or, or_true]
theorem room0 {dp un k : Nat} {gd : Option (List Code)} {cn : Str} {cs : Scope} {L a : Addr} {ccd : Value} {cl : List (Str × Addr)} {outer : List Env} (h : dp + (k + 2) < recursionLimit) : (ktrTop dp un gd cn cs L a ccd cl outer).depth < recursionLimit := by
  show dp < recursionLimit; omega
theorem room1 {dp un k : Nat} {gd : Option (List Code)} {cn : Str} {cs : Scope} {L a : Addr} {ccd : Value} {cl : List (Str × Addr)} {outer : List Env} {env : Env} (h : dp + (k + 2) < recursionLimit) : ((ktrTop dp un gd cn cs L a ccd cl outer).deeper env).depth < recursionLimit := by
  show dp + 1 < recursionLimit; omega
/-- what search_reverse reckons over a finder -/
noncomputable def revGo (find : Nat → Option (Int × Int)) (col : Int) : Nat → Option (Int × Int) → Int × Int → Option (Int × Int)
  | 0, found, _ => found
  | f + 1, found, (i, j) => if i < col ∧ j ≤ col then (match find (if i = j then j + 1 else j).toNat with | none => some (i, j) | some c => revGo find col f (some (i, j)) c) else found
noncomputable def revFind (find : Nat → Option (Int × Int)) (col : Int) (n : Nat) : Option (Int × Int) := match find 0 with
  | none => none
  | some c => revGo find col (n + 1) none c
/-- the finder's bounds -/
structure Finds (find : Nat → Option (Int × Int)) (n : Nat) : Prop where
  lo : ∀ pl i j, find pl = some (i, j) → (pl : Int) ≤ i ∧ i ≤ j ∧ i < (n : Int) ∧ j ≤ (n : Int)
  up : ∀ pl i j, find pl = some (i, j) → ∀ i' j', find (if i = j then j + 1 else j).toNat = some (i', j') → j < j'
noncomputable def chainQual : Str := qualnameIn (envOfC (Str.ofString "_law_chains") (defParts (PySem.Challenge.pw_pe0053_01.main.body.getD 16 (.Pass ⟨0, 0, 0, 0⟩))).2.2 0 112 (.ref 111)) (Str.ofString "search") (Str.ofString "search")
noncomputable def unlikeQual : Str := qualnameIn (envOf (Str.ofString "_law_unlike") (defParts (PySem.Challenge.pw_pe0053_01.main.body.getD 17 (.Pass ⟨0, 0, 0, 0⟩))).2.2 0 119 (.ref 118)) (Str.ofString "search") (Str.ofString "search")
noncomputable abbrev chainFd (cp T : Addr) (doc pm : Value) (c' : Addr) (ctv : Value) : FuncData := fnX "search" chainQual (partsAt 16 0).1 (partsAt 16 0).2.1 (partsAt 16 0).2.2 [(Str.ofString "passing", cp)] (.ref T) .none doc pm none (.ref c') ctv
noncomputable abbrev unlikeFd (T : Addr) (doc pm : Value) (c' : Addr) (ctv : Value) : FuncData := fnX "search" unlikeQual (partsAt 17 0).1 (partsAt 17 0).2.1 (partsAt 17 0).2.2 [] (.ref T) .none doc pm none (.ref c') ctv
/-- the finder of stretches stands in the ledger -/
inductive ChainIn (news : List (Addr × Obj)) (q : Addr) (v : Int) : Prop
  | mk {d cp T c' : Addr} {od op oc : Obj} {tp t0 : Tok} {doc pm ctv : Value} {sl : Array (Option Value)} :
    (q, fnObj (some d) (chainFd cp T doc pm c' ctv) sl) ∈ news → (d, od) ∈ news → LCg.NsObj od (fun x => if x = Str.ofString "search" then some (.ref q) else none) →
    (cp, op) ∈ news → op.data = .cell (some (.int v tp)) → (T, kdv_tup [.int 0 t0]) ∈ news → (c', oc) ∈ news → CodeOf chainQual c' oc → ChainIn news q v
theorem ChainIn.mono {n n' : List (Addr × Obj)} {q : Addr} {v : Int} (hs : ∀ p ∈ n, p ∈ n') : ChainIn n q v → ChainIn n' q v
  | .mk h1 h2 h3 h4 h5 h6 h7 h8 => .mk (hs _ h1) (hs _ h2) h3 (hs _ h4) h5 (hs _ h6) (hs _ h7) h8
inductive UnlikeIn (news : List (Addr × Obj)) (q : Addr) : Prop
  | mk {d T c' : Addr} {od oc : Obj} {t0 : Tok} {doc pm ctv : Value} {sl : Array (Option Value)} :
    (q, fnObj (some d) (unlikeFd T doc pm c' ctv) sl) ∈ news → (d, od) ∈ news → LCg.NsObj od (fun x => if x = Str.ofString "search" then some (.ref q) else none) →
    (T, kdv_tup [.int 0 t0]) ∈ news → (c', oc) ∈ news → CodeOf unlikeQual c' oc → UnlikeIn news q
theorem UnlikeIn.mono {n n' : List (Addr × Obj)} {q : Addr} (hs : ∀ p ∈ n, p ∈ n') : UnlikeIn n q → UnlikeIn n' q
  | .mk h1 h2 h3 h4 h5 h6 => .mk (hs _ h1) (hs _ h2) h3 (hs _ h4) (hs _ h5) h6
theorem chain_done {h₀ h' : Heap} {L : Addr} {news : List (Addr × Obj)} {f d cp T c : Addr} {v hs : Int} {tp ts t0 : Tok} {op oc : Obj} {doc pm ctv : Value} {sl : Array (Option Value)} {ps ps' : Array Value} {P : Prop}
    (N : News h₀ L h' ((d, dictOf [⟨hs, .str (Str.ofString "search") ts, .ref f⟩] 1) :: (f, fnObj (some d) (chainFd cp T doc pm c ctv) sl) :: (c, oc) :: (T, kdv_tup [.int 0 t0]) :: (cp, op) :: (107, tabObj ps') :: news))
    (hp : op.data = .cell (some (.int v tp))) (hco : CodeOf chainQual c oc) (hlt : AllLt cp ((107, tabObj ps) :: news)) (h1 : @LT.lt Nat _ cp T) (h2 : @LT.lt Nat _ T c) (h4 : @LT.lt Nat _ c f) (h3 : @LT.lt Nat _ f d)
    (k : ∀ tl, News h₀ L h' ((107, tabObj ps') :: (tl ++ news)) → ChainIn tl f v → (∀ p ∈ tl, AllLt p.1 ((107, tabObj ps) :: news)) → P) : P := by
  refine k [(d, dictOf [⟨hs, .str (Str.ofString "search") ts, .ref f⟩] 1), (f, fnObj (some d) (chainFd cp T doc pm c ctv) sl), (c, oc), (T, kdv_tup [.int 0 t0]), (cp, op)] (kst_newsOf N fun p hp => ?_)
    (.mk (.tail _ (.head _)) (.head _) nsObj_one (.tail _ (.tail _ (.tail _ (.tail _ (.head _))))) hp (.tail _ (.tail _ (.tail _ (.head _)))) (.tail _ (.tail _ (.head _))) hco) fun p hp => ?_
  · simp only [List.cons_append, List.nil_append, List.mem_cons] at hp ⊢
    rcases hp with h | h | h | h | h | h | h <;> simp only [h, true_or, or_true]
  · simp only [List.mem_cons, List.not_mem_nil, or_false] at hp
    rcases hp with rfl | rfl | rfl | rfl | rfl <;> exact allLt_mono (by dsimp only; omega) hlt
theorem unlike_done {h₀ h' : Heap} {L : Addr} {news : List (Addr × Obj)} {f d T c : Addr} {hs : Int} {ts t0 : Tok} {oc : Obj} {doc pm ctv : Value} {sl : Array (Option Value)} {ps ps' : Array Value} {P : Prop}
    (N : News h₀ L h' ((d, dictOf [⟨hs, .str (Str.ofString "search") ts, .ref f⟩] 1) :: (f, fnObj (some d) (unlikeFd T doc pm c ctv) sl) :: (c, oc) :: (T, kdv_tup [.int 0 t0]) :: (114, tabObj ps') :: news))
    (hco : CodeOf unlikeQual c oc) (hlt : AllLt T ((114, tabObj ps) :: news)) (h2 : @LT.lt Nat _ T c) (h4 : @LT.lt Nat _ c f) (h3 : @LT.lt Nat _ f d)
    (k : ∀ tl, News h₀ L h' ((114, tabObj ps') :: (tl ++ news)) → UnlikeIn tl f → (∀ p ∈ tl, AllLt p.1 ((114, tabObj ps) :: news)) → P) : P := by
  refine k [(d, dictOf [⟨hs, .str (Str.ofString "search") ts, .ref f⟩] 1), (f, fnObj (some d) (unlikeFd T doc pm c ctv) sl), (c, oc), (T, kdv_tup [.int 0 t0])] (kst_newsOf N fun p hp => ?_)
    (.mk (.tail _ (.head _)) (.head _) nsObj_one (.tail _ (.tail _ (.tail _ (.head _)))) (.tail _ (.tail _ (.head _))) hco) fun p hp => ?_
  · simp only [List.cons_append, List.nil_append, List.mem_cons] at hp ⊢
    rcases hp with h | h | h | h | h | h <;> simp only [h, true_or, or_true]
  · simp only [List.mem_cons, List.not_mem_nil, or_false] at hp
    rcases hp with rfl | rfl | rfl | rfl <;> exact allLt_mono (by dsimp only; omega) hlt

structure RevSt where
  q : Addr
  i : Int
  ti : Tok
  j : Int
  tj : Tok
  fv : Value
  fo : Option (Int × Int)
  tl : List (Addr × Obj)
  ps : Array Value
  fuel : Nat
theorem allLt_drop {e : Nat} {x y : Obj} {a : Addr} {k : List (Addr × Obj)} : ∀ {l : List (Addr × Obj)}, AllLt e ((a, x) :: (l ++ k)) → AllLt e ((a, y) :: k)
  | [], h => h
  | _ :: _, h => allLt_drop (x := x) (y := y) ⟨h.1, h.2.2⟩
theorem hl_join {tl tlc news : List (Addr × Obj)} {x y : Obj} (h1 : ∀ p ∈ tl, AllLt p.1 ((100, x) :: (tlc ++ news))) (h2 : ∀ p ∈ tlc, AllLt p.1 ((100, y) :: news)) : ∀ p ∈ tl ++ tlc, AllLt p.1 ((100, y) :: news) := fun p hp => by
  rcases List.mem_append.mp hp with hp | hp
  · exact allLt_drop (h1 p hp)
  · exact h2 p hp
theorem hn_join {tlc news : List (Addr × Obj)} {y : Obj} (h2 : ∀ p ∈ tlc, AllLt p.1 ((100, y) :: news)) (hn : ∀ p ∈ news, p.1 ≠ 100) : ∀ p ∈ tlc ++ news, p.1 ≠ 100 := fun p hp => by
  rcases List.mem_append.mp hp with hp | hp
  · exact Nat.ne_of_gt (h2 p hp).1
  · exact hn p hp
theorem revGo_out {find : Nat → Option (Int × Int)} {col i j : Int} {f : Nat} {o : Option (Int × Int)} (h : ¬ (i < col ∧ j ≤ col)) : revGo find col f o (i, j) = o := by
  cases f with
  | zero => rfl
  | succ f => simp only [revGo]; rw [if_neg h]
theorem revGo_none {find : Nat → Option (Int × Int)} {col i j : Int} {f : Nat} {o : Option (Int × Int)} (hf : 0 < f) (h : i < col ∧ j ≤ col) (e : find (if i = j then j + 1 else j).toNat = none) : revGo find col f o (i, j) = some (i, j) := by
  cases f with
  | zero => omega
  | succ f => simp only [revGo]; rw [if_pos h, e]
theorem revGo_some {find : Nat → Option (Int × Int)} {col i j : Int} {f : Nat} {o : Option (Int × Int)} {c : Int × Int} (hf : 0 < f) (h : i < col ∧ j ≤ col) (e : find (if i = j then j + 1 else j).toNat = some c) : revGo find col f o (i, j) = revGo find col (f - 1) (some (i, j)) c := by
  cases f with
  | zero => omega
  | succ f => simp only [revGo]; rw [if_pos h, e]; rfl
/-- the contract of a finder -/
noncomputable def FinderAt (w : World) (p : Program) (loose : List Str) (mean : ExcName → Option Value) (mg mb : Str → Option Value) (base : Heap) (q row : Addr) (len : Nat) (find : Nat → Option (Int × Int)) (FIN : List (Addr × Obj) → Prop) : Prop :=
  ∀ {dp un : Nat} {gd : Option (List Code)} {cn : Str} {cs : Scope} {a : Addr} {ccd : Value} {cl : List (Str × Addr)} {outer : List Env} {A₀ : Around} {h₀ : Heap} {L : Addr} {m : Str → Option Value}
    {s : Shared} {news : List (Addr × Obj)} {Q E : Value → Shared → Prop} {ps : Array Value} (pl : Nat) (tp : Tok) (args : List Value),
    Below A₀ base outer h₀ → Fr h₀ L s.heap m → (hd.heap_39 w.params).In h₀ → News h₀ L s.heap ((100, tabObj ps) :: news) → FIN news → Top p loose mean mg mb h₀ → (∀ p ∈ news, p.1 ≠ 100) → cs.kind = .function →
    dp + 15 < recursionLimit → un + 150 < cLine → HitTab news ps → pl ≤ len → (args = [.ref row] ∧ pl = 0 ∨ args = [.ref row, .int (pl : Int) tp]) →
    (∀ v' tl ps' h' tk', Fr h₀ L h' m → News h₀ L h' ((100, tabObj ps') :: (tl ++ news)) → HitTab (tl ++ news) ps' → Found (tl ++ news) v' (find pl) → (∀ p ∈ tl, AllLt p.1 ((100, tabObj ps) :: news)) → Q v' { s with heap := h', toks := tk' }) →
    wpAny (model PR w) (ktrTop dp un gd cn cs L a ccd cl outer) (call (.ref q) args) Q E s

section
variable {prog : Program} {w : World} {A A₀ : Around} {s : Shared} {K : Frag} {L : Addr} {h₀ base : Heap} {m mg mb : Str → Option Value} {news : List (Addr × Obj)} {p : Program} {loose : List Str} {mean : ExcName → Option Value}
/-- a call of a function of the ledger's own, whatever its dict and defaults -/
theorem code_own {env : Env} {outer : List Env} {R : Result → Shared → Prop} {name qual : Str} {params : Arguments} {body : List Stmt} {scope : Scope} {cl : List (Str × Addr)} {dV doc pm ctv : Value} {c' f : Addr} {d : Option Addr} {sl : Array (Option Value)} {oc : Obj} {args : Args} {binds : List (Str × Value)}
    (B : Below A₀ base outer h₀) (F : Fr h₀ L s.heap m) (X₀ : K.In h₀) (N : News h₀ L s.heap news) (T : Top p loose mean mg mb h₀) (hA : A.frames = some (env :: outer)) (hf : env.frame = some L) (hke : env.scope.kind = .function)
    (ho : (f, fnObj d (fnX name qual params body scope cl dV .none doc pm none (.ref c') ctv) sl) ∈ news) (hco : (c', oc) ∈ news) (hcd : CodeOf qual c' oc) (hroom : A.depth < recursionLimit)
    (hbind : BindsTo s (fnX name qual params body scope cl dV .none doc pm none (.ref c') ctv) args binds) (hloc : ∀ y ∈ binds, scope.names.lookup y.1 = some .local)
    (h : ∀ g L' h₁, Fr h₀ L g m → Fr g L' h₁ (fun y => binds.reverse.lookup y) → News g L' h₁ news → Below A base (env :: outer) g → K.In g → Top p loose mean mg mb g → (∀ p ∈ news, p.1 < L') →
      wpAny (model prog w) (A.deeper (envX qual scope L' f (.ref c') cl)) (execs body (envX qual scope L' f (.ref c') cl))
        (fun fl s' => LeaveK h₀ L m g R (match fl with | .ret v => v | _ => .none) s')
        (fun e s' => wpAny (model prog w) (A.deeper (envX qual scope L' f (.ref c') cl)) (leaving (envX qual scope L' f (.ref c') cl) e) (fun _ s'' => R (.error e) s'') (fun e' s'' => R (.error e') s'') s')
        { s with heap := h₁, toks := s.toks + binds.length })
    (hco' : scope.isCoroutine = false) (hgen : scope.isGenerator = false) (hk : scope.kind = .function)
    (hcell : ∀ x ∈ scope.names, x.2 ≠ .cell) : codeAny (model prog w) A (.call (.ref f) args) R s := by
  obtain ⟨vs, t, e1, e2⟩ := hcd.out
  exact callX_plain (cl := cl) B F N T.nolimit hA hf hke (N _ ho).1 rfl ⟨c', oc, vs, t, rfl, (N _ hco).1, e1, e2⟩ hroom hbind hloc (fun g L' h₁ FG F' N' B' st l => h g L' h₁ FG F' N' B' (X₀.keeps st) (T.keeps st) l) hcell hco' hgen hk
end

section
variable {prog : Program} {w : World} {A : Around} {s : Shared} {h₀ : Heap} {L : Addr} {m : Str → Option Value} {env : Env} {elt : Expr} {x : Str} {scope : Scope} {cl : List (Str × Addr)} {S : List (Addr × Obj) → Prop} {P : Nat → Value → Prop} {Fin : List Value → List (Addr × Obj) → Prop}
theorem compEnd_snoc {h₀ : Heap} {L I C D : Addr} {m : Str → Option Value} {s₁ : Shared} {oI oC oD : Obj} {rest : Value → List (Addr × Obj) → Prop} {y : Value} {h' : Heap} {tk : Nat} {W tl : List (Addr × Obj)} {new : Addr × Obj}
    (F : Fr h₀ L h' m) (N : News h₀ L h' (new :: (I, oI) :: (C, oC) :: (D, oD) :: (W ++ tl))) (off : LCg.Off3 I C D (W ++ tl)) (hI : @LT.lt Nat _ I new.1) (hC : @LT.lt Nat _ C new.1) (hD : @LT.lt Nat _ D new.1) (hS : S (W ++ (tl ++ [new]))) (r : rest y (W ++ (tl ++ [new]))) :
    LCg.CompEnd h₀ L m s₁ I oI C oC D oD S rest y { s₁ with heap := h', toks := tk } := by
  refine LCg.CompEnd.intro F N (W ++ (tl ++ [new])) (fun p hp => ?_) (LCg.Off3.of fun p hp => ?_) hS r
  · simp only [List.mem_cons, List.mem_append, List.not_mem_nil, or_false] at hp ⊢
    rcases hp with h | h | h | h | h | h <;> simp [h]
  · rw [← List.append_assoc] at hp
    rcases List.mem_append.mp hp with hp | hp
    · exact off.mem p hp
    · rw [List.mem_singleton.mp hp]
      exact ⟨Nat.ne_of_gt hI, Nat.ne_of_gt hC, Nat.ne_of_gt hD⟩
theorem compEnd_same {h₀ : Heap} {L I C D : Addr} {m : Str → Option Value} {s₁ : Shared} {oI oC oD : Obj} {rest : Value → List (Addr × Obj) → Prop} {y : Value} {h' : Heap} {tk : Nat} {W : List (Addr × Obj)}
    (F : Fr h₀ L h' m) (N : News h₀ L h' ((I, oI) :: (C, oC) :: (D, oD) :: W)) (off : LCg.Off3 I C D W) (hS : S W) (r : rest y W) :
    LCg.CompEnd h₀ L m s₁ I oI C oC D oD S rest y { s₁ with heap := h', toks := tk } := LCg.CompEnd.intro F N W (fun _ hp => hp) off hS r
theorem ints_snoc {f : Nat → Int} {xs : List Value} {i : Nat} {v : Int} {t : Tok} (h : IntsAre xs ((List.range i).map f)) (e : v = f i) : IntsAre (xs ++ [.int v t]) ((List.range (i + 1)).map f) := by
  rw [range_map_succ, ← e]
  exact h.append (.cons _ _ .nil)
/-- a comprehension by what holds of its turns -/
theorem compRest_inv {n : Nat} (Inv : Nat → List Value → List (Addr × Obj) → Prop)
    (step : ∀ i ys news, i < n → Inv i ys news → ∀ v I oI C oC D m₂ h tk (E' : Value → Shared → Prop), P i v → LCg.NsObj oC m₂ → m₂ x = some v → Fr h₀ L h m → News h₀ L h ((I, oI) :: (C, oC) :: (D, LCg.lst ys) :: news) → LCg.Off3 I C D news → ((@Ne Nat I C) ∧ (@Ne Nat I D) ∧ (@Ne Nat C D)) →
      wpAny (model prog w) A (eval elt (compEnvC scope cl C env)) (LCg.CompEnd h₀ L m { s with heap := h, toks := tk } I oI C oC D (LCg.lst ys) S (fun y news' => Inv (i + 1) (ys ++ [y]) news')) E' { s with heap := h, toks := tk })
    (fin : ∀ ys news, Inv n ys news → Fin ys news) : ∀ k i ys news, i + k = n → Inv i ys news → LCg.CompRest prog w A h₀ L m env elt x scope cl s S P Fin k i ys news
  | 0, i, ys, news, e, hi => by
    obtain rfl : i = n := by omega
    exact fin _ _ hi
  | k + 1, i, ys, news, e, hi => by
    intro v I oI C oC D m₂ h tk E' h1 h2 h3 h4 h5 h6 h7
    refine wpAny_mono (step i ys news (by omega) hi v I oI C oC D m₂ h tk E' h1 h2 h3 h4 h5 h6 h7) (fun y s₂ q => ?_) fun _ _ x => x
    obtain ⟨h', tk', news', e', F', N', o', hS', r'⟩ := q
    exact ⟨h', tk', news', e', F', N', o', hS', compRest_inv Inv step fin k (i + 1) _ _ (by omega) r'⟩
end
end Mine
end -- C0

section -- O1
open PySem PySem.W PyProof.Rows
set_option maxRecDepth 100000
set_option maxHeartbeats 8000000
namespace Mine
section
variable {w : World} {p : Program} {loose : List Str} {mean : ExcName → Option Value} {mg mb : Str → Option Value}
    {dp un : Nat} {gd : Option (List Code)} {cn : Str} {cs : Scope} {a : Addr} {ccd : Value} {cl : List (Str × Addr)} {outer : List Env} {A₀ : Around} {base h₀ : Heap} {L : Addr} {m : Str → Option Value}
    {s : Shared} {news : List (Addr × Obj)} {Q E : Value → Shared → Prop} {x y : Int} {t u : Tok}
local macro_rules | `(tactic| walk_at "binaryOp FloorDiv int int") => `(tactic| ((with_reducible refine floordiv_int ?a ?_ (Or.inl ?b)); (case a => assumption); (case b => assumption)))
theorem lt_op
    (B : Below A₀ base outer h₀) (F : Fr h₀ L s.heap m) (X : (hd.heap_39 w.params).In h₀) (N : News h₀ L s.heap news) (T : Top p loose mean mg mb h₀) (hk : cs.kind = .function) (hdp : dp + 5 < recursionLimit) (hun : un + 50 < cLine)
    (h : ∀ h' tk', Fr h₀ L h' m → News h₀ L h' news → Q (.bool (decide (x < y))) { s with heap := h', toks := tk' }) :
    wpAny (model PR w) (ktrTop dp un gd cn cs L a ccd cl outer) (call (.ref 21) [.int x t, .int y u]) Q E s := by
  k_with_none
  w_top off
  revert X; unfold PR; k_fill; intro X
  refine wpAny_call ?_
  k_dflt ktr_enter
  k_steps
  rename_i kF kN _ _
  exact h _ _ kF kN
theorem le_op
    (B : Below A₀ base outer h₀) (F : Fr h₀ L s.heap m) (X : (hd.heap_39 w.params).In h₀) (N : News h₀ L s.heap news) (T : Top p loose mean mg mb h₀) (hk : cs.kind = .function) (hdp : dp + 5 < recursionLimit) (hun : un + 50 < cLine)
    (h : ∀ h' tk', Fr h₀ L h' m → News h₀ L h' news → Q (.bool (decide (x ≤ y))) { s with heap := h', toks := tk' }) :
    wpAny (model PR w) (ktrTop dp un gd cn cs L a ccd cl outer) (call (.ref 28) [.int x t, .int y u]) Q E s := by
  k_with_none
  w_top off
  revert X; unfold PR; k_fill; intro X
  refine wpAny_call ?_
  k_dflt ktr_enter
  k_steps
  rename_i kF kN _ _
  exact h _ _ kF kN
theorem eq_op
    (B : Below A₀ base outer h₀) (F : Fr h₀ L s.heap m) (X : (hd.heap_39 w.params).In h₀) (N : News h₀ L s.heap news) (T : Top p loose mean mg mb h₀) (hk : cs.kind = .function) (hdp : dp + 5 < recursionLimit) (hun : un + 50 < cLine)
    (h : ∀ h' tk', Fr h₀ L h' m → News h₀ L h' news → Q (.bool (x == y)) { s with heap := h', toks := tk' }) :
    wpAny (model PR w) (ktrTop dp un gd cn cs L a ccd cl outer) (call (.ref 35) [.int x t, .int y u]) Q E s := by
  k_with_none
  w_top off
  revert X; unfold PR; k_fill; intro X
  refine wpAny_call ?_
  k_dflt ktr_enter
  k_steps
  rename_i kF kN _ _
  exact h _ _ kF kN
theorem ne_op
    (B : Below A₀ base outer h₀) (F : Fr h₀ L s.heap m) (X : (hd.heap_39 w.params).In h₀) (N : News h₀ L s.heap news) (T : Top p loose mean mg mb h₀) (hk : cs.kind = .function) (hdp : dp + 5 < recursionLimit) (hun : un + 50 < cLine)
    (h : ∀ h' tk', Fr h₀ L h' m → News h₀ L h' news → Q (.bool (x != y)) { s with heap := h', toks := tk' }) :
    wpAny (model PR w) (ktrTop dp un gd cn cs L a ccd cl outer) (call (.ref 42) [.int x t, .int y u]) Q E s := by
  k_with_none
  w_top off
  revert X; unfold PR; k_fill; intro X
  refine wpAny_call ?_
  k_dflt ktr_enter
  k_steps
  rename_i kF kN _ _
  exact h _ _ kF kN
theorem ge_op
    (B : Below A₀ base outer h₀) (F : Fr h₀ L s.heap m) (X : (hd.heap_39 w.params).In h₀) (N : News h₀ L s.heap news) (T : Top p loose mean mg mb h₀) (hk : cs.kind = .function) (hdp : dp + 5 < recursionLimit) (hun : un + 50 < cLine)
    (h : ∀ h' tk', Fr h₀ L h' m → News h₀ L h' news → Q (.bool (decide (y ≤ x))) { s with heap := h', toks := tk' }) :
    wpAny (model PR w) (ktrTop dp un gd cn cs L a ccd cl outer) (call (.ref 49) [.int x t, .int y u]) Q E s := by
  k_with_none
  w_top off
  revert X; unfold PR; k_fill; intro X
  refine wpAny_call ?_
  k_dflt ktr_enter
  k_steps
  rename_i kF kN _ _
  exact h _ _ kF kN
theorem gt_op
    (B : Below A₀ base outer h₀) (F : Fr h₀ L s.heap m) (X : (hd.heap_39 w.params).In h₀) (N : News h₀ L s.heap news) (T : Top p loose mean mg mb h₀) (hk : cs.kind = .function) (hdp : dp + 5 < recursionLimit) (hun : un + 50 < cLine)
    (h : ∀ h' tk', Fr h₀ L h' m → News h₀ L h' news → Q (.bool (decide (y < x))) { s with heap := h', toks := tk' }) :
    wpAny (model PR w) (ktrTop dp un gd cn cs L a ccd cl outer) (call (.ref 56) [.int x t, .int y u]) Q E s := by
  k_with_none
  w_top off
  revert X; unfold PR; k_fill; intro X
  refine wpAny_call ?_
  k_dflt ktr_enter
  k_steps
  rename_i kF kN _ _
  exact h _ _ kF kN
theorem add_op
    (B : Below A₀ base outer h₀) (F : Fr h₀ L s.heap m) (X : (hd.heap_39 w.params).In h₀) (N : News h₀ L s.heap news) (T : Top p loose mean mg mb h₀) (hk : cs.kind = .function) (hdp : dp + 5 < recursionLimit) (hun : un + 50 < cLine)
    (h : ∀ v h' tk', Fr h₀ L h' m → News h₀ L h' news → Q (.int (x + y) v) { s with heap := h', toks := tk' }) :
    wpAny (model PR w) (ktrTop dp un gd cn cs L a ccd cl outer) (call (.ref 63) [.int x t, .int y u]) Q E s := by
  k_with_none
  w_top off
  revert X; unfold PR; k_fill; intro X
  refine wpAny_call ?_
  k_dflt ktr_enter
  k_steps
  rename_i kF kN _ _
  exact h _ _ _ kF kN
theorem floordiv_op
    (B : Below A₀ base outer h₀) (F : Fr h₀ L s.heap m) (X : (hd.heap_39 w.params).In h₀) (N : News h₀ L s.heap news) (T : Top p loose mean mg mb h₀) (hk : cs.kind = .function) (hdp : dp + 5 < recursionLimit) (hun : un + 50 < cLine)
    (hy : y ≠ 0) (hpy : Builtin.divisionGoesByPylong x y = false)
    (h : ∀ v h' tk', Fr h₀ L h' m → News h₀ L h' news → Q (.int (Int.fdiv x y) v) { s with heap := h', toks := tk' }) :
    wpAny (model PR w) (ktrTop dp un gd cn cs L a ccd cl outer) (call (.ref 70) [.int x t, .int y u]) Q E s := by
  k_with_none
  w_top off
  revert X; unfold PR; k_fill; intro X
  refine wpAny_call ?_
  k_dflt ktr_enter
  k_steps
  rename_i kF kN _ _
  exact h _ _ _ kF kN
theorem mod_op
    (B : Below A₀ base outer h₀) (F : Fr h₀ L s.heap m) (X : (hd.heap_39 w.params).In h₀) (N : News h₀ L s.heap news) (T : Top p loose mean mg mb h₀) (hk : cs.kind = .function) (hdp : dp + 5 < recursionLimit) (hun : un + 50 < cLine)
    (hy : y ≠ 0)
    (h : ∀ v h' tk', Fr h₀ L h' m → News h₀ L h' news → Q (.int (Int.fmod x y) v) { s with heap := h', toks := tk' }) :
    wpAny (model PR w) (ktrTop dp un gd cn cs L a ccd cl outer) (call (.ref 77) [.int x t, .int y u]) Q E s := by
  k_with_none
  w_top off
  revert X; unfold PR; k_fill; intro X
  refine wpAny_call ?_
  k_dflt ktr_enter
  k_steps
  rename_i kF kN _ _
  exact h _ _ _ kF kN
theorem sub_op
    (B : Below A₀ base outer h₀) (F : Fr h₀ L s.heap m) (X : (hd.heap_39 w.params).In h₀) (N : News h₀ L s.heap news) (T : Top p loose mean mg mb h₀) (hk : cs.kind = .function) (hdp : dp + 5 < recursionLimit) (hun : un + 50 < cLine)
    (h : ∀ v h' tk', Fr h₀ L h' m → News h₀ L h' news → Q (.int (x - y) v) { s with heap := h', toks := tk' }) :
    wpAny (model PR w) (ktrTop dp un gd cn cs L a ccd cl outer) (call (.ref 84) [.int x t, .int y u]) Q E s := by
  k_with_none
  w_top off
  revert X; unfold PR; k_fill; intro X
  refine wpAny_call ?_
  k_dflt ktr_enter
  k_steps
  rename_i kF kN _ _
  exact h _ _ _ kF kN
theorem getitem_op {l : Addr} {vs : List Value} {ns : List Int} {n : Nat}
    (B : Below A₀ base outer h₀) (F : Fr h₀ L s.heap m) (X : (hd.heap_39 w.params).In h₀) (N : News h₀ L s.heap news) (T : Top p loose mean mg mb h₀) (hk : cs.kind = .function) (hdp : dp + 5 < recursionLimit) (hun : un + 50 < cLine)
    (hm : (l, W.listOf vs.toArray n) ∈ news) (hi : IntsAre vs ns) (h0 : 0 ≤ y) (h1 : y < (ns.length : Int)) (h9 : ns.length ≤ 9)
    (h : ∀ v h' tk', Fr h₀ L h' m → News h₀ L h' news → Q (.int (ns.getD y.toNat 0) v) { s with heap := h', toks := tk' }) :
    wpAny (model PR w) (ktrTop dp un gd cn cs L a ccd cl outer) (call (.ref 91) [.ref l, .int y u]) Q E s := by
  have zs := hi.length
  replace N : News h₀ L s.heap ((l, W.listOf vs.toArray n) :: news) := kst_newsOf N (sub_in hm)
  k_with_none
  w_top off
  revert X; unfold PR; k_fill; intro X
  refine wpAny_call ?_
  k_dflt ktr_enter
  k_steps
  rename_i kF kN _ _
  exact h _ _ _ kF (kst_newsOf kN fun _ hp => .tail _ hp)
end
theorem pow_small {b : Int} {k : Nat} (hb : 2 ≤ b) (hb' : b ≤ 10) (hk : k ≤ 9) (z : Int) : Builtin.divisionGoesByPylong z (b ^ k) = false := by
  refine PyProof.noPylong_small ?_
  rw [Int.natAbs_pow]
  have h1 : b.natAbs ^ k ≤ 10 ^ k := Nat.pow_le_pow_left (by omega) k
  have h2 : 10 ^ k ≤ 10 ^ 9 := Nat.pow_le_pow_right (by omega) hk
  omega
end Mine
end -- O1

section -- C1
open PySem PySem.W PyProof.Rows
set_option maxRecDepth 100000
set_option maxHeartbeats 8000000
namespace Mine
section
variable {w : World} {p : Program} {loose : List Str} {mean : ExcName → Option Value} {mg mb : Str → Option Value}
    {dp un : Nat} {gd : Option (List Code)} {cn : Str} {cs : Scope} {a : Addr} {ccd : Value} {cl : List (Str × Addr)} {outer : List Env} {A₀ : Around} {base h₀ : Heap} {L : Addr} {m : Str → Option Value}
    {s : Shared} {news : List (Addr × Obj)} {Q E : Value → Shared → Prop} 
local macro_rules | `(tactic| mul_fits) => `(tactic| exact Small.left (by assumption))

theorem worth_spec {lf : Addr} {vs : List Value} {ns : List Int} {n : Nat} {b : Int} {tb : Tok}
    (B : Below A₀ base outer h₀) (F : Fr h₀ L s.heap m) (X : (hd.heap_39 w.params).In h₀) (N : News h₀ L s.heap ((lf, W.listOf vs.toArray n) :: news)) (T : Top p loose mean mg mb h₀) (hk : cs.kind = .function)
    (hdp : dp + 5 < recursionLimit) (hun : un + 50 < cLine)
    (hi : IntsAre vs ns) (hlen : ns.length ≤ 9) (hsm : Small ns) (hb : 2 ≤ b) (hb' : b ≤ 10)
    (h : ∀ t h' tk', Fr h₀ L h' m → News h₀ L h' ((lf, W.listOf vs.toArray n) :: news) → Q (.int (worthTo ns b ns.length) t) { s with heap := h', toks := tk' }) :
    wpAny (model PR w) (ktrTop dp un gd cn cs L a ccd cl outer) (call (.ref 126) [.ref lf, .int b tb]) Q E s := by
  revert X; unfold PR; k_fill; intro X
  k_with_none
  w_top off
  k_with "pyIter ref" => k_state_given ["figures", "base"] (fun ns b pre v => v = worthTo ns b pre.length) "worth"
  k_with "state" => (simp_all [worthTo])
  refine wpAny_call ?_
  k_dflt ktr_enter
  k_steps
  rename_i kF kN _ _
  simp only [rangeKs_length, Int.sub_zero, Int.toNat_natCast] at kInv
  subst kInv
  exact h _ _ _ kF kN
end
end Mine
end -- C1

section -- C6
open PySem PySem.W PyProof.Rows
set_option maxRecDepth 100000
set_option maxHeartbeats 8000000
namespace Mine
section
variable {w : World} {p : Program} {loose : List Str} {mean : ExcName → Option Value} {mg mb : Str → Option Value}
    {dp un : Nat} {gd : Option (List Code)} {cn : Str} {cs : Scope} {a : Addr} {ccd : Value} {cl : List (Str × Addr)} {outer : List Env} {A₀ : Around} {base h₀ : Heap} {L : Addr} {m : Str → Option Value}
    {s : Shared} {news : List (Addr × Obj)} {Q E : Value → Shared → Prop} 


local macro_rules | `(tactic| walk_at "eval Name") => `(tactic| refine Stop.out ?_)
theorem span_spec {q : Addr} {i j : Int}
    (B : Below A₀ base outer h₀) (F : Fr h₀ L s.heap m) (X : (hd.heap_39 w.params).In h₀) (N : News h₀ L s.heap news) (T : Top p loose mean mg mb h₀) (hk : cs.kind = .function)
    (hdp : dp + 5 < recursionLimit) (hun : un + 50 < cLine) (hH : HitIn news q i j)
    (h : ∀ D t u h' tk', Fr h₀ L h' m → News h₀ L h' ((D, pairObj i t j u) :: news) → AllLt D news → Q (.ref D) { s with heap := h', toks := tk' }) :
    wpAny (model PR w) (ktrTop dp un gd cn cs L a ccd cl outer) (call (.ref q) []) Q E s := by
  k_with_none
  w_top off
  revert X; unfold PR; k_fill; intro X
  obtain ⟨hq, hd1, hd2, hi1, hi2, hj1, hj2, hc1, hc2⟩ := hH
  refine wpAny_call ?_
  k_dflt (refine' code_own ?k1 ?k2 ?k3 ?k4 ?k5 ?kA ?kF ?kK hq hc1 hc2 ?k8 ?k9 ?kB ?_ ?c2 ?c3 ?c4 ?c5; (case kA => exact rfl); (case kF => exact rfl); (case kK => assumption); (case k1 => k_asm); (case k2 => k_asm); (case k3 => k_asm); (case k4 => k_asm); (case k5 => k_asm); (case k8 => ktr_room); (case k9 => exact BindsTo.of_eq rfl); (case c5 => decide); (case kB => exact locs rfl); (case c2 => exact rfl); (case c3 => exact rfl); (case c4 => exact rfl); k_whole; intro g' L' h' FG' F' N' B' X' T' l1; (try dsimp only))
  clear hc1 hc2
  clear hq
  generalize hitQual = Z
  conv =>
    pattern (occs := *) partsAt 15 0
    all_goals whnf
  dsimp only
  try k_fold
  k_steps
  refine Stop.of ?_
  k_dflt (refine' nameX_F ?kN ?kc ?km ?kd ?_ ?ka ?kb; (case ka => rfl); (case kb => rfl); (case kc => rfl); (case km => assumption); (case kd => assumption); (case kN => k_asm))
  k_steps
  refine Stop.of ?_
  k_dflt (refine' nameX_F ?jN ?jc ?jm ?jd ?_ ?ja ?jb; (case ja => rfl); (case jb => rfl); (case jc => rfl); (case jm => assumption); (case jd => assumption); (case jN => k_asm))
  k_steps
  rename_i D _ _ _ hl kF kN _ _
  exact h D _ _ _ _ kF kN (allLt_of hl)
end
end Mine
end -- C6

section -- C2
open PySem PySem.W PyProof.Rows
set_option maxRecDepth 100000
set_option maxHeartbeats 8000000
namespace Mine
section
variable {w : World} {p : Program} {loose : List Str} {mean : ExcName → Option Value} {mg mb : Str → Option Value}
    {dp un : Nat} {gd : Option (List Code)} {cn : Str} {cs : Scope} {a : Addr} {ccd : Value} {cl : List (Str × Addr)} {outer : List Env} {A₀ : Around} {base h₀ : Heap} {L : Addr} {m : Str → Option Value}
    {s : Shared} {news : List (Addr × Obj)} {Q E : Value → Shared → Prop} 

theorem added_spec {la lb : Addr} {vs vs' : List Value} {ls rs : List Int} {n n' : Nat} {b : Int} {tb : Tok}
    (B : Below A₀ base outer h₀) (F : Fr h₀ L s.heap m) (X : (hd.heap_39 w.params).In h₀) (N : News h₀ L s.heap ((la, W.listOf vs.toArray n) :: (lb, W.listOf vs'.toArray n') :: news)) (T : Top p loose mean mg mb h₀) (hk : cs.kind = .function)
    (hdp : dp + 5 < recursionLimit) (hun : un + 50 < cLine)
    (hi : IntsAre vs ls) (hi' : IntsAre vs' rs) (hlen : ls.length ≤ 9) (hlen' : rs.length = ls.length) (hb : 2 ≤ b) (hb' : b ≤ 10)
    (h : ∀ D l₁ l₂ ws ws' k k' h' tk', Fr h₀ L h' m → News h₀ L h' ((D, ({ cls := .type "tuple", data := .seq #[.ref l₁, .ref l₂] } : Obj)) :: (l₂, W.listOf ws'.toArray k') :: (l₁, W.listOf ws.toArray k) :: (la, W.listOf vs.toArray n) :: (lb, W.listOf vs'.toArray n') :: news) →
      IntsAre ws ((List.range ls.length).map (totalAt ls rs b)) → IntsAre ws' ((List.range (ls.length + 1)).map (carryAt ls rs b)) → AllLt l₁ ((la, W.listOf vs.toArray n) :: (lb, W.listOf vs'.toArray n') :: news) → @LT.lt Nat _ l₁ l₂ → @LT.lt Nat _ l₂ D → Q (.ref D) { s with heap := h', toks := tk' }) :
    wpAny (model PR w) (ktrTop dp un gd cn cs L a ccd cl outer) (call (.ref 133) [.ref la, .ref lb, .int b tb]) Q E s := by
  revert X; unfold PR; k_fill; intro X
  k_with_none
  w_top off
  k_with "pyIter ref" => k_state_given ["left", "right", "base"] (fun ls rs b pre f c => f.length = pre.length ∧ c.length = pre.length + 1 ∧ f = (List.range pre.length).map (totalAt ls rs b) ∧ c = (List.range (pre.length + 1)).map (carryAt ls rs b)) "figures" "carries"
  k_with "state" => first | exact added_start | exact added_step (by assumption) (by assumption) (by assumption)
  refine wpAny_call ?_
  k_dflt ktr_enter
  k_steps
  rename_i e e' _ _ _ _ _ _ _ _ kF kN _ _
  simp only [rangeKs_length, Int.sub_zero, Int.toNat_natCast] at e e'
  subst e e'
  exact h _ _ _ _ _ _ _ _ _ kF kN (by assumption) (by assumption) (by assumption) (by omega) (by omega)
end
end Mine
end -- C2

section -- C3
open PySem PySem.W PyProof.Rows
set_option maxRecDepth 100000
set_option maxHeartbeats 8000000
namespace Mine
section
variable {w : World} {p : Program} {loose : List Str} {mean : ExcName → Option Value} {mg mb : Str → Option Value}
    {dp un : Nat} {gd : Option (List Code)} {cn : Str} {cs : Scope} {a : Addr} {ccd : Value} {cl : List (Str × Addr)} {outer : List Env} {A₀ : Around} {base h₀ : Heap} {L : Addr} {m : Str → Option Value}
    {s : Shared} {news : List (Addr × Obj)} {Q E : Value → Shared → Prop} 

theorem taken_spec {la lb : Addr} {vs vs' : List Value} {ls rs : List Int} {n n' : Nat} {b : Int} {tb : Tok}
    (B : Below A₀ base outer h₀) (F : Fr h₀ L s.heap m) (X : (hd.heap_39 w.params).In h₀) (N : News h₀ L s.heap ((la, W.listOf vs.toArray n) :: (lb, W.listOf vs'.toArray n') :: news)) (T : Top p loose mean mg mb h₀) (hk : cs.kind = .function)
    (hdp : dp + 5 < recursionLimit) (hun : un + 50 < cLine)
    (hi : IntsAre vs ls) (hi' : IntsAre vs' rs) (hlen : ls.length ≤ 9) (hlen' : rs.length = ls.length) (hb : 2 ≤ b) (hb' : b ≤ 10)
    (h : ∀ D l₁ l₂ ws ws' k k' h' tk', Fr h₀ L h' m → News h₀ L h' ((D, ({ cls := .type "tuple", data := .seq #[.ref l₁, .ref l₂] } : Obj)) :: (l₂, W.listOf ws'.toArray k') :: (l₁, W.listOf ws.toArray k) :: (la, W.listOf vs.toArray n) :: (lb, W.listOf vs'.toArray n') :: news) →
      IntsAre ws ((List.range ls.length).map (remnantAt ls rs b)) → IntsAre ws' ((List.range (ls.length + 1)).map (borrowAt ls rs)) → AllLt l₁ ((la, W.listOf vs.toArray n) :: (lb, W.listOf vs'.toArray n') :: news) → @LT.lt Nat _ l₁ l₂ → @LT.lt Nat _ l₂ D → Q (.ref D) { s with heap := h', toks := tk' }) :
    wpAny (model PR w) (ktrTop dp un gd cn cs L a ccd cl outer) (call (.ref 140) [.ref la, .ref lb, .int b tb]) Q E s := by
  revert X; unfold PR; k_fill; intro X
  k_with_none
  w_top off
  k_with "pyIter ref" => k_state_given ["left", "right", "base"] (fun ls rs b pre f c => f.length = pre.length ∧ c.length = pre.length + 1 ∧ f = (List.range pre.length).map (remnantAt ls rs b) ∧ c = (List.range (pre.length + 1)).map (borrowAt ls rs)) "figures" "borrows"
  k_with "state" => first | exact taken_start | exact taken_step1 (by assumption) (by assumption) (by assumption) (by assumption) | exact taken_step0 (by assumption) (by assumption) (by assumption) (by assumption)
  refine wpAny_call ?_
  k_dflt ktr_enter
  k_steps
  rename_i e e' _ _ _ _ _ _ _ _ kF kN _ _
  simp only [rangeKs_length, Int.sub_zero, Int.toNat_natCast] at e e'
  subst e e'
  exact h _ _ _ _ _ _ _ _ _ kF kN (by assumption) (by assumption) (by assumption) (by omega) (by omega)
end
end Mine
end -- C3

section -- shared lines
open PySem PySem.W PyProof.Rows Mine
local macro_rules | `(tactic| k_all) => `(tactic| exact ne_above (by assumption) (by omega))
local macro_rules | `(tactic| k_all) => `(tactic| assumption)

section -- C4
open PySem PySem.W PyProof.Rows
set_option maxRecDepth 100000
set_option maxHeartbeats 8000000
namespace Mine
noncomputable def opens (ls rs : List Int) (b : Int) (k : Nat) : Bool := decide (Int.fdiv (ls.getD k 0 + rs.getD k 0) b = Int.fdiv (ls.getD k 0 + rs.getD k 0 + 1) b)
noncomputable def beginsTo (ls rs : List Int) (b : Int) (n : Nat) : List Int := ((List.range n).filter (opens ls rs b)).map (fun k : Nat => (k : Int))
theorem begins_len {ls rs : List Int} {b : Int} {n : Nat} : (beginsTo ls rs b n).length ≤ n := by
  unfold beginsTo
  rw [List.length_map]
  exact Nat.le_trans (List.length_filter_le _ _) (by simp)
theorem begins_start {ls rs : List Int} {b : Int} : ([] : List Int).length ≤ ([] : List Int).length ∧ ([] : List Int) = beginsTo ls rs b ([] : List Int).length := by simp [beginsTo]
theorem begins_step1 {ls rs f pre : List Int} {b k : Int} (hk : k = 0 + (pre.length : Int)) (hf : f = beginsTo ls rs b pre.length)
    (hv : Int.fdiv (ls.getD k.toNat 0 + rs.getD k.toNat 0) b = Int.fdiv (ls.getD k.toNat 0 + rs.getD k.toNat 0 + 1) b) :
    (f ++ [k]).length ≤ (pre ++ [k]).length ∧ f ++ [k] = beginsTo ls rs b (pre ++ [k]).length := by
  have e : k.toNat = pre.length := by omega
  rw [e] at hv
  have e2 : f ++ [k] = beginsTo ls rs b (pre ++ [k]).length := by
    rw [hf]; unfold beginsTo
    simp only [List.length_append, List.length_singleton, List.range_succ, List.filter_append, List.map_append]
    congr 1
    simp only [List.filter_cons, opens, hv, decide_true, if_true, List.filter_nil, List.map_cons, List.map_nil]
    congr 1
    omega
  exact ⟨by rw [e2]; exact begins_len, e2⟩
theorem begins_step0 {ls rs f pre : List Int} {b k : Int} (hk : k = 0 + (pre.length : Int)) (hf : f = beginsTo ls rs b pre.length)
    (hv : ¬ Int.fdiv (ls.getD k.toNat 0 + rs.getD k.toNat 0) b = Int.fdiv (ls.getD k.toNat 0 + rs.getD k.toNat 0 + 1) b) :
    f.length ≤ (pre ++ [k]).length ∧ f = beginsTo ls rs b (pre ++ [k]).length := by
  have e : k.toNat = pre.length := by omega
  rw [e] at hv
  have e2 : f = beginsTo ls rs b (pre ++ [k]).length := by
    rw [hf]; unfold beginsTo
    simp only [List.length_append, List.length_singleton, List.range_succ, List.filter_append, List.map_append]
    simp only [List.filter_cons, opens, hv, decide_false, Bool.false_eq_true, if_false, List.filter_nil, List.map_nil, List.append_nil]
  exact ⟨by rw [e2]; exact begins_len, e2⟩

noncomputable def stretchAt (ls rs : List Int) (b : Int) (t : Nat) : Int × Int := ((beginsTo ls rs b ls.length).getD t 0, (((beginsTo ls rs b ls.length).drop 1) ++ [(ls.length : Int)]).getD t 0)
noncomputable def stretchesOf (ls rs : List Int) (b : Int) : List (Int × Int) := (List.range (beginsTo ls rs b ls.length).length).map (stretchAt ls rs b)

section
variable {w : World} {p : Program} {loose : List Str} {mean : ExcName → Option Value} {mg mb : Str → Option Value}
    {dp un : Nat} {gd : Option (List Code)} {cn : Str} {cs : Scope} {a : Addr} {ccd : Value} {cl : List (Str × Addr)} {outer : List Env} {A₀ : Around} {base h₀ : Heap} {L : Addr} {m : Str → Option Value}
    {s : Shared} {news : List (Addr × Obj)} {Q E : Value → Shared → Prop} 

theorem stretches_spec {la lb : Addr} {vs vs' : List Value} {ls rs : List Int} {n n' : Nat} {b : Int} {tb : Tok}
    (B : Below A₀ base outer h₀) (F : Fr h₀ L s.heap m) (X : (hd.heap_39 w.params).In h₀) (N : News h₀ L s.heap ((la, W.listOf vs.toArray n) :: (lb, W.listOf vs'.toArray n') :: news)) (T : Top p loose mean mg mb h₀) (hk : cs.kind = .function)
    (hdp : dp + 5 < recursionLimit) (hun : un + 50 < cLine)
    (hi : IntsAre vs ls) (hi' : IntsAre vs' rs) (hlen : ls.length ≤ 9) (hlen' : rs.length = ls.length) (hb : 2 ≤ b) (hb' : b ≤ 10)
    (h : ∀ D ys tl h' tk', Fr h₀ L h' m → News h₀ L h' ((D, LCg.lst ys) :: (la, W.listOf vs.toArray n) :: (lb, W.listOf vs'.toArray n') :: (news ++ tl)) → Pairs tl ys (stretchesOf ls rs b) →
      LCg.Off1 D ((la, W.listOf vs.toArray n) :: (lb, W.listOf vs'.toArray n') :: (news ++ tl)) → (∀ p ∈ tl, AllLt p.1 ((la, W.listOf vs.toArray n) :: (lb, W.listOf vs'.toArray n') :: news)) → Q (.ref D) { s with heap := h', toks := tk' }) :
    wpAny (model PR w) (ktrTop dp un gd cn cs L a ccd cl outer) (call (.ref 145) [.ref la, .ref lb, .int b tb]) Q E s := by
  revert X; unfold PR; k_fill; intro X
  k_with_none
  w_top off
  k_with "CompSrc Tuple cons ref" => refine Stop.out ?_
  k_with "pyIter ref" => k_state_given ["left", "right", "base"] (fun ls rs b pre f => f.length ≤ pre.length ∧ f = beginsTo ls rs b pre.length) "begins"
  k_with "state" => first | exact begins_start | exact begins_step1 (by assumption) (by assumption) (by assumption) | exact begins_step0 (by assumption) (by assumption) (by assumption)
  refine wpAny_call ?_
  k_dflt (refine' code_defC ?k1 ?k2 ?k3 ?k4 ?k5 ?kA ?kF ?kK ?k6 ?k7 ?k8 ?k9 ?kB ?kD ?_ ?c2 ?c3 ?c4; (case kA => exact rfl); (case kF => exact rfl); (case kK => assumption); (case k1 => k_asm); (case k2 => k_asm); (case k3 => k_asm); (case k4 => k_asm); (case k5 => k_asm); (case k6 => k_is); (case k7 => k_is); (case k8 => ktr_room); (case k9 => exact BindsTo.of_eq rfl); (case kB => exact rfl); (case kD => decide +kernel); (case c2 => exact rfl); (case c3 => exact rfl); (case c4 => exact rfl); k_whole; intro g' L' h' tk' cells' FG' F' N' Y' B' X' T' l1; (try k_lt l1); (have hA := l1.2.2); k_cells Y'; (try simp only [List.cons_append, List.nil_append] at N'); (try dsimp only); (try k_fold))
  k_steps
  rename_i oB _ _ _ lB _ hl _ oC F0 N0 dC hR tkR t1 u1 v1 rg FR NR kp
  clear kp N0 F0
  with_unfolding_all refine' kst_range (σ := List Value × List Int × Nat) (fun c => (lB, W.listOf c.1.toArray c.2.2) :: (L' + 1 + 1, oB) :: (L' + 1, oC) :: (la, W.listOf vs.toArray n) :: (lb, W.listOf vs'.toArray n') :: news) (fun _ => []) (fun c => IntsAre c.1 c.2.1) [Str.ofString "both"] (fun pre c => c.2.1.length ≤ pre.length ∧ c.2.1 = beginsTo ls rs b pre.length) ([], [], 0) (by rfl) rg (small_one (by omega) (by omega) (by omega) (by omega)) (rangeSize_nat _ _) FR NR .nil (fun _ h => nomatch h) begins_start ?_ ?_
  · rintro ⟨cv, cn, ck⟩ kPre kN kT kU kH kTk kOwn kEq kLt kOff kFacts kInv kFr kNews
    have kMark := kstMark
    clear rg FR NR
    dsimp only [kstB] at kFr
    dsimp only at kNews kFacts kInv kOff
    simp only [List.nil_append, List.cons_append, List.append_nil] at kNews
    simp only [List.map_cons, List.map_nil] at kOff
    obtain ⟨kI1, kI2⟩ := kInv
    have kLen := kFacts.length
    try k_fold
    k_steps
  · rintro ⟨cv, cn, ck⟩ kU kH kTk kFacts kInv kFr kNews
    have kMark := kstMark
    clear rg FR NR
    dsimp only [kstB] at kFr
    dsimp only at kNews kFacts kInv
    obtain ⟨kI1, kI2⟩ := kInv
    simp only [rangeKs_length, Int.sub_zero, Int.toNat_natCast] at kI1 kI2
    have kLen := kFacts.length
    try k_fold
    k_steps
    rename_i lE ws1 _ hW1 _ _ hlE lF _ hlF lG ws2 _ _ _ hW2 hlG _ oE _ _ dE _ _ _ _ _ rg FR NR kp
    clear kp
    refine Stop.of ?_
    refine LCg.CompSrc.range (by rfl) FR NR rg (small_one (by omega) (by omega) (by omega) (by omega)) (rangeSize_nat _ _) (by simp only [Int.sub_zero, Int.toNat_natCast]; rw [sizeLine_eq]; omega) ?_
    intro g1
    simp only [Int.sub_zero, Int.toNat_natCast]
    obtain ⟨WW, hW⟩ : ∃ WW : List (Addr × Obj), WW = (lG, W.listOf ws2.toArray 0) :: (lF, W.listOf #[Value.int (↑ls.length) (kTk + 1 + 1)] 0) :: (lE, W.listOf ws1.toArray 0) :: (lB, W.listOf cv.toArray ck) :: (L' + 1 + 1, oE) :: (L' + 1, oC) :: (la, W.listOf vs.toArray n) :: (lb, W.listOf vs'.toArray n') :: news := ⟨_, rfl⟩
    rw [← hW]
    refine compRest_inv (n := cn.length) (fun i ys nw => ∃ tl, nw = WW ++ tl ∧ Pairs tl ys ((List.range i).map (stretchAt ls rs b)) ∧ ∀ p ∈ tl, AllLt p.1 ((la, W.listOf vs.toArray n) :: (lb, W.listOf vs'.toArray n') :: news)) ?_ ?_ _ 0 [] _ (Nat.zero_add _) ⟨[], by rw [List.append_nil], .nil, fun _ h => nomatch h⟩
    · rintro i ys nw hi ⟨tl, rfl, hP, hT⟩ v I oI C oC' D m₂ h5 tk5 E5 ⟨t5, rfl⟩ hNs hx F5 N5 off5 ne5
      clear rg FR NR
      rw [hW] at N5
      simp only [List.cons_append] at N5
      k_steps
      rename_i Dn hN FN NN hlN
      refine compEnd_snoc (W := WW) (tl := tl) FN (by rw [hW]; exact NN) off5 hlN.1 hlN.2.1 hlN.2.2.1 trivial ⟨_, rfl, ?_, ?_⟩
      · rw [List.range_succ, List.map_append]
        refine hP.new ?_
        rw [show ((0 : Int) + (i : Int)).toNat = i by omega, kI2]
        rfl
      · intro p hp
        rcases List.mem_append.mp hp with hp | hp
        · exact hT p hp
        · rw [List.mem_singleton.mp hp]
          exact ⟨hlN.2.2.2.2.2.2.2.2.2.1, hlN.2.2.2.2.2.2.2.2.2.2.1, allLt_app hlN.2.2.2.2.2.2.2.2.2.2.2⟩
    · rintro ys nw ⟨tl, rfl, hP, hT⟩
      clear rg FR NR
      rw [hW]
      simp only [List.cons_append]
      k_steps
      rename_i D _ _ _ _ off kF kN _ _
      refine h D ys tl _ _ kF (kst_newsOf kN ?_) (by unfold stretchesOf; rw [← kI2]; exact hP) ?_ hT
      · repeat (first | exact sub_id | exact sub_n | refine sub_c (by repeat (first | exact .head _ | assumption | exact List.mem_append_left _ (by assumption) | refine .tail _ ?_ | refine List.mem_append_right _ ?_)) ?_ | refine sub_t ?_ | exact sub_l sub_id | exact sub_r sub_id | refine sub_o ?_ ?_ | refine sub_r ?_)
      · exact off.2.2.2.2.2.2
end
end Mine
end -- C4

section -- C5
open PySem PySem.W PyProof.Rows
set_option maxRecDepth 100000
set_option maxHeartbeats 8000000
namespace Mine
section
variable {w : World} {p : Program} {loose : List Str} {mean : ExcName → Option Value} {mg mb : Str → Option Value}
    {dp un : Nat} {gd : Option (List Code)} {cn : Str} {cs : Scope} {a : Addr} {ccd : Value} {cl : List (Str × Addr)} {outer : List Env} {A₀ : Around} {base h₀ : Heap} {L : Addr} {m : Str → Option Value}
    {s : Shared} {news : List (Addr × Obj)} {Q E : Value → Shared → Prop} 

theorem hit_spec {i j : Int} {ti tj : Tok} {ps : Array Value}
    (B : Below A₀ base outer h₀) (F : Fr h₀ L s.heap m) (X : (hd.heap_39 w.params).In h₀) (N : News h₀ L s.heap ((100, tabObj ps) :: news)) (T : Top p loose mean mg mb h₀) (hC : CodeHd base 104 100) (hn : ∀ p ∈ news, p.1 ≠ 100) (hk : cs.kind = .function)
    (hdp : dp + 5 < recursionLimit) (hun : un + 50 < cLine) (hT : HitTab news ps)
    (h : ∀ q tl ps' h' tk', Fr h₀ L h' m → News h₀ L h' ((100, tabObj ps') :: (tl ++ news)) → HitTab (tl ++ news) ps' → HitIn (tl ++ news) q i j → (∀ p ∈ tl, AllLt p.1 ((100, tabObj ps) :: news)) → Q (.ref q) { s with heap := h', toks := tk' }) :
    wpAny (model PR w) (ktrTop dp un gd cn cs L a ccd cl outer) (call (.ref 105) [.int i ti, .int j tj]) Q E s := by
  k_with_none
  w_top off
  k_with "setAttr ref ref" => refine Stop.out ?_
  revert X; unfold PR; k_fill; intro X
  cases hT
  · refine wpAny_call ?_
    k_dflt (refine' code_defC ?k1 ?k2 ?k3 ?k4 ?k5 ?kA ?kF ?kK ?k6 ?k7 ?k8 ?k9 ?kB ?kD ?_ ?c2 ?c3 ?c4; (case kA => exact rfl); (case kF => exact rfl); (case kK => assumption); (case k1 => k_asm); (case k2 => k_asm); (case k3 => k_asm); (case k4 => k_asm); (case k5 => k_asm); (case k6 => k_is); (case k7 => k_is); (case k8 => ktr_room); (case k9 => exact BindsTo.of_eq rfl); (case kB => exact rfl); (case kD => decide +kernel); (case c2 => exact rfl); (case c3 => exact rfl); (case c4 => exact rfl); k_whole; intro g' L' h' tk' cells' FG' F' N' Y' B' X' T' l1; (try k_lt l1); k_cells Y'; (try simp only [List.cons_append, List.nil_append] at N'); (try dsimp only); (try k_fold))
    have hA := l1.2
    k_steps
    refine Stop.of ?_
    k_dflt (refine' fn_set ?sl ?sF ?sN ?sU ?_; (case sl => first | exact fn_no_span | exact fn_no_search); (case sF => k_asm); (case sN => k_asm); (case sU => k_updF))
    intro d g9 F2 N2 hl3
    (try dsimp only at N2)
    (try k_lt hl3)
    k_steps
    rename_i oJ oI dJ dI f c oc vs t ct dc _ _ e1 e2 hl1 hl2 _ F1 N1 kF kN _ _
    refine hit_done1 (ti := ti) (tj := tj) (ps := #[]) kN ?_ ?_ ⟨⟨vs, t, e1, e2⟩⟩ ?_ (Nat.lt_succ_self _) hl1.1 hl2 hl3.1 (fun tl N3 hT hH hl => h f tl _ _ _ kF N3 hT hH hl)
    · rw [dI]; rfl
    · rw [dJ]; rfl
    · exact allLt_mono (by omega) (l := (100, tabObj #[]) :: news) l1
  · refine wpAny_call ?_
    k_dflt (refine' code_defC ?k1 ?k2 ?k3 ?k4 ?k5 ?kA ?kF ?kK ?k6 ?k7 ?k8 ?k9 ?kB ?kD ?_ ?c2 ?c3 ?c4; (case kA => exact rfl); (case kF => exact rfl); (case kK => assumption); (case k1 => k_asm); (case k2 => k_asm); (case k3 => k_asm); (case k4 => k_asm); (case k5 => k_asm); (case k6 => k_is); (case k7 => k_is); (case k8 => ktr_room); (case k9 => exact BindsTo.of_eq rfl); (case kB => exact rfl); (case kD => decide +kernel); (case c2 => exact rfl); (case c3 => exact rfl); (case c4 => exact rfl); k_whole; intro g' L' h' tk' cells' FG' F' N' Y' B' X' T' l1; (try k_lt l1); k_cells Y'; (try simp only [List.cons_append, List.nil_append] at N'); (try dsimp only); (try k_fold))
    have hA := l1.2
    k_steps
    refine Stop.of ?_
    k_dflt (refine' fn_set ?sl ?sF ?sN ?sU ?_; (case sl => first | exact fn_no_span | exact fn_no_search); (case sF => k_asm); (case sN => k_asm); (case sU => k_updF))
    intro d g9 F2 N2 hl3
    (try dsimp only at N2)
    (try k_lt hl3)
    k_steps
    rename_i c oc hmem hco oJ oI dJ dI f ct dc _ _ hl1 _ F1 N1 kF kN _ _
    refine hit_done (ti := ti) (tj := tj) kN ?_ ?_ hmem hco (.full hmem hco) ?_ (Nat.lt_succ_self _) hl1.1 hl3.1 (fun tl N3 hT hH hl => h f tl _ _ _ kF N3 hT hH hl)
    · rw [dI]; rfl
    · rw [dJ]; rfl
    · exact allLt_mono (by omega) (l := (100, tabObj #[]) :: news) l1
end
end Mine
end -- C5

section -- C7
open PySem PySem.W PyProof.Rows
set_option maxRecDepth 100000
set_option maxHeartbeats 8000000
namespace Mine
section
variable {w : World} {p : Program} {loose : List Str} {mean : ExcName → Option Value} {mg mb : Str → Option Value}
    {dp un : Nat} {gd : Option (List Code)} {cn : Str} {cs : Scope} {a : Addr} {ccd : Value} {cl : List (Str × Addr)} {outer : List Env} {A₀ : Around} {base h₀ : Heap} {L : Addr} {m : Str → Option Value}
    {s : Shared} {news : List (Addr × Obj)} {Q E : Value → Shared → Prop} 


theorem chains_spec {v : Int} {tv : Tok}
    (B : Below A₀ base outer h₀) (F : Fr h₀ L s.heap m) (X : (hd.heap_39 w.params).In h₀) (N : News h₀ L s.heap ((107, tabObj #[]) :: news)) (T : Top p loose mean mg mb h₀) (hC : CodeHd base 111 107) (hn : ∀ p ∈ news, p.1 ≠ 107) (hk : cs.kind = .function)
    (hdp : dp + 5 < recursionLimit) (hun : un + 50 < cLine)
    (h : ∀ q tl ps' h' tk', Fr h₀ L h' m → News h₀ L h' ((107, tabObj ps') :: (tl ++ news)) → ChainIn tl q v → (∀ p ∈ tl, AllLt p.1 ((107, tabObj #[]) :: news)) → Q (.ref q) { s with heap := h', toks := tk' }) :
    wpAny (model PR w) (ktrTop dp un gd cn cs L a ccd cl outer) (call (.ref 112) [.int v tv]) Q E s := by
  k_with_none
  w_top off
  k_with "setAttr ref ref" => refine Stop.out ?_
  revert X; unfold PR; k_fill; intro X
  refine wpAny_call ?_
  k_dflt (refine' code_defC ?k1 ?k2 ?k3 ?k4 ?k5 ?kA ?kF ?kK ?k6 ?k7 ?k8 ?k9 ?kB ?kD ?_ ?c2 ?c3 ?c4; (case kA => exact rfl); (case kF => exact rfl); (case kK => assumption); (case k1 => k_asm); (case k2 => k_asm); (case k3 => k_asm); (case k4 => k_asm); (case k5 => k_asm); (case k6 => k_is); (case k7 => k_is); (case k8 => ktr_room); (case k9 => exact BindsTo.of_eq rfl); (case kB => exact rfl); (case kD => decide +kernel); (case c2 => exact rfl); (case c3 => exact rfl); (case c4 => exact rfl); k_whole; intro g' L' h' tk' cells' FG' F' N' Y' B' X' T' l1; (try k_lt l1); k_cells Y'; (try simp only [List.cons_append, List.nil_append] at N'); (try dsimp only); (try k_fold))
  have hA := l1.2
  k_steps
  refine Stop.of ?_
  k_dflt (refine' fn_set ?sl ?sF ?sN ?sU ?_; (case sl => first | exact fn_no_span | exact fn_no_search); (case sF => k_asm); (case sN => k_asm); (case sU => k_updF))
  intro d g9 F2 N2 hl3
  (try dsimp only at N2)
  (try k_lt hl3)
  k_steps
  rename_i op dop T' _ hlT f c oc vs t ct dc _ _ e1 e2 hl1 hl2 _ F1 N1 kF kN _ _
  refine chain_done (tp := tv) (ps := #[]) kN ?_ ⟨⟨vs, t, e1, e2⟩⟩ ?_ hlT.1 hl1.1 hl2 hl3.1 (fun tl N3 hH hl => h f tl _ _ _ kF N3 hH hl)
  · rw [dop]; rfl
  · exact allLt_mono (by omega) (l := (107, tabObj #[]) :: news) l1
theorem unlike_spec
    (B : Below A₀ base outer h₀) (F : Fr h₀ L s.heap m) (X : (hd.heap_39 w.params).In h₀) (N : News h₀ L s.heap ((114, tabObj #[]) :: news)) (T : Top p loose mean mg mb h₀) (hC : CodeHd base 118 114) (hn : ∀ p ∈ news, p.1 ≠ 114) (hk : cs.kind = .function)
    (hdp : dp + 5 < recursionLimit) (hun : un + 50 < cLine)
    (h : ∀ q tl ps' h' tk', Fr h₀ L h' m → News h₀ L h' ((114, tabObj ps') :: (tl ++ news)) → UnlikeIn tl q → (∀ p ∈ tl, AllLt p.1 ((114, tabObj #[]) :: news)) → Q (.ref q) { s with heap := h', toks := tk' }) :
    wpAny (model PR w) (ktrTop dp un gd cn cs L a ccd cl outer) (call (.ref 119) []) Q E s := by
  k_with_none
  w_top off
  k_with "setAttr ref ref" => refine Stop.out ?_
  revert X; unfold PR; k_fill; intro X
  refine wpAny_call ?_
  k_dflt ktr_enter
  k_steps
  refine Stop.of ?_
  k_dflt (refine' fn_set ?sl ?sF ?sN ?sU ?_; (case sl => first | exact fn_no_span | exact fn_no_search); (case sF => k_asm); (case sN => k_asm); (case sU => k_updF))
  intro d g9 F2 N2 hl3
  (try dsimp only at N2)
  (try k_lt hl3)
  k_steps
  rename_i T' _ hlT f c oc vs t ct dc _ _ e1 e2 hl1 hl2 _ F1 N1 kF kN _ _
  exact unlike_done (ps := #[]) kN ⟨⟨vs, t, e1, e2⟩⟩ hlT hl1.1 hl2 hl3.1 (fun tl N3 hH hl => h f tl _ _ _ kF N3 hH hl)
end
end Mine
end -- C7

section -- shared lines
open PySem PySem.W PyProof.Rows Mine
local macro_rules | `(tactic| k_room) => `(tactic| first | exact room1 (by assumption) | exact room0 (by assumption))

section -- C8
open PySem PySem.W PyProof.Rows
set_option maxRecDepth 100000
set_option maxHeartbeats 1500000
namespace Mine
section
variable {w : World} {p : Program} {loose : List Str} {mean : ExcName → Option Value} {mg mb : Str → Option Value}
    {dp un : Nat} {gd : Option (List Code)} {cn : Str} {cs : Scope} {a : Addr} {ccd : Value} {cl : List (Str × Addr)} {outer : List Env} {A₀ : Around} {base h₀ : Heap} {L : Addr} {m : Str → Option Value}
    {s : Shared} {news : List (Addr × Obj)} {Q E : Value → Shared → Prop} 


theorem unlike_call {q row : Addr} {pl : Nat} {vs : List Value} {ns : List Int} {n : Nat} {tp : Tok} {ps : Array Value} {d T₀ c' : Addr} {oc : Obj} {doc pm ctv : Value} {sl : Array (Option Value)} {args : List Value}
    (B : Below A₀ base outer h₀) (F : Fr h₀ L s.heap m) (X : (hd.heap_39 w.params).In h₀) (N₀ : News h₀ L s.heap ((100, tabObj ps) :: news)) (hrow : (row, W.listOf vs.toArray n) ∈ news) (T : Top p loose mean mg mb h₀) (hC : CodeHd base 104 100) (hn : ∀ p ∈ news, p.1 ≠ 100) (hk : cs.kind = .function)
    (hdp : dp + 15 < recursionLimit) (hun : un + 150 < cLine) (hT : HitTab news ps)
    (hq : (q, fnObj (some d) (unlikeFd T₀ doc pm c' ctv) sl) ∈ news) (hc1 : (c', oc) ∈ news) (hc2 : CodeOf unlikeQual c' oc)
    (hi : IntsAre vs ns) (hlen : ns.length ≤ 9) (hpl : pl ≤ ns.length)
    (hb : BindsTo s (unlikeFd T₀ doc pm c' ctv) ⟨args, []⟩ [(Str.ofString "row", .ref row), (Str.ofString "place", .int (pl : Int) tp)])
    (h : ∀ v tl ps' h' tk', Fr h₀ L h' m → News h₀ L h' ((100, tabObj ps') :: (tl ++ news)) → HitTab (tl ++ news) ps' → Found (tl ++ news) v (unlikeFind ns pl) → (∀ p ∈ tl, AllLt p.1 ((100, tabObj ps) :: news)) → Q v { s with heap := h', toks := tk' }) :
    wpAny (model PR w) (ktrTop dp un gd cn cs L a ccd cl outer) (call (.ref q) args) Q E s := by
  k_with_none
  w_top off
  k_with "pyIter ref" => refine Stop.out ?_
  k_with "call ref cons nil" => ((with_reducible show wpAny _ _ (call (Value.ref 105) _) _ _ _); refine Stop.out ?_)
  revert X; unfold PR; k_fill; intro X
  have N : News h₀ L s.heap ((row, W.listOf vs.toArray n) :: (100, tabObj ps) :: news) := kst_newsOf N₀ (sub_in (.tail _ hrow))
  refine wpAny_call ?_
  k_dflt (refine' code_own ?k1 ?k2 ?k3 ?k4 ?k5 ?kA ?kF ?kK (List.Mem.tail _ (List.Mem.tail _ hq)) (List.Mem.tail _ (List.Mem.tail _ hc1)) hc2 ?k8 hb ?kB ?_ ?c2 ?c3 ?c4 ?c5; (case kA => exact rfl); (case kF => exact rfl); (case kK => assumption); (case k1 => k_asm); (case k2 => k_asm); (case k3 => k_asm); (case k4 => k_asm); (case k5 => k_asm); (case k8 => ktr_room); (case c5 => decide); (case kB => exact locs rfl); (case c2 => exact rfl); (case c3 => exact rfl); (case c4 => exact rfl); k_whole; intro g' L' h' FG' F' N' B' X' T' l1; (try dsimp only))
  clear hq hc1 hc2 hb
  generalize unlikeQual = Z
  conv =>
    pattern (occs := *) partsAt 17 0
    all_goals whnf
  dsimp only
  try k_fold
  k_steps
  rename_i F0 N0 hR tkR t1 u1 v1 rg FR NR kp
  clear kp F0 N0
  refine Stop.of ?_
  with_unfolding_all refine' kst_range (σ := Unit) (fun _ => (row, W.listOf vs.toArray n) :: (100, tabObj ps) :: news) (fun _ => []) (fun _ => True) [] (fun pre _ => nextOff ns 0 (pl + pre.length) = nextOff ns 0 pl) () (by rfl) rg (small_row hlen hpl) (rangeSize_nat _ _) FR NR trivial (fun _ h => nomatch h) rfl ?_ ?_
  · rintro ⟨⟩ kPre kN kT kU kH kTk kOwn kEq kLt kOff - kInv kFr kNews
    have kMark := kstMark
    clear rg FR NR
    dsimp only [kstB] at kFr
    dsimp only at kNews kInv kOff
    simp only [List.nil_append, List.cons_append, List.append_nil] at kNews
    simp only [List.map_cons, List.map_nil] at kOff
    try k_fold
    k_with "state" => exact nextOff_turn (by assumption) (by assumption) (by assumption) (by simp_all)
    k_steps
    rename_i kF kN2 _ _ hne
    refine Stop.of ?_
    refine hit_spec (news := news) (ps := ps) B' kF X' (kst_newsOf kN2 sub_mid) T' hC hn rfl (show dp + 1 + 5 < recursionLimit by omega) (show un + 3 + 50 < cLine by omega) hT (fun q' tl ps' h₅ tk₅ F₅ N₅ hT₅ hH₅ hl₅ => ?_)
    clear kFr kNews
    k_steps
    rename_i kF₆ kN₆ _ _
    exact h _ tl ps' _ _ kF₆ kN₆ hT₅ (by rw [unlike_hit kEq kLt kInv hne]; exact .some hH₅) hl₅
  · rintro ⟨⟩ kU kH kTk - kInv kFr kNews
    clear rg FR NR
    dsimp only [kstB] at kFr
    dsimp only at kNews kInv
    simp only [rangeKs_length] at kInv
    try k_fold
    k_steps
    rename_i kF₆ kN₆ _ _
    exact h _ [] ps _ _ kF₆ (kst_newsOf kN₆ fun p hp => .tail _ hp) hT (by rw [unlike_miss hpl kInv]; exact .none) (fun _ h => nomatch h)
end
end Mine
end -- C8

section -- C9
open PySem PySem.W PyProof.Rows
set_option maxRecDepth 100000
set_option maxHeartbeats 1500000
namespace Mine
section
variable {w : World} {p : Program} {loose : List Str} {mean : ExcName → Option Value} {mg mb : Str → Option Value}
    {dp un : Nat} {gd : Option (List Code)} {cn : Str} {cs : Scope} {a : Addr} {ccd : Value} {cl : List (Str × Addr)} {outer : List Env} {A₀ : Around} {base h₀ : Heap} {L : Addr} {m : Str → Option Value}
    {s : Shared} {news : List (Addr × Obj)} {Q E : Value → Shared → Prop} 



theorem chain_call {q row : Addr} {pl : Nat} {vs : List Value} {ns : List Int} {n : Nat} {tp : Tok} {ps : Array Value} {d T₀ c' cp : Addr} {oc op : Obj} {v : Int} {tv : Tok} {doc pm ctv : Value} {sl : Array (Option Value)} {args : List Value}
    (B : Below A₀ base outer h₀) (F : Fr h₀ L s.heap m) (X : (hd.heap_39 w.params).In h₀) (N₀ : News h₀ L s.heap ((100, tabObj ps) :: news)) (hrow : (row, W.listOf vs.toArray n) ∈ news) (T : Top p loose mean mg mb h₀) (hC : CodeHd base 104 100) (hn : ∀ p ∈ news, p.1 ≠ 100) (hk : cs.kind = .function)
    (hdp : dp + 15 < recursionLimit) (hun : un + 150 < cLine) (hT : HitTab news ps)
    (hq : (q, fnObj (some d) (chainFd cp T₀ doc pm c' ctv) sl) ∈ news) (hc1 : (c', oc) ∈ news) (hc2 : CodeOf chainQual c' oc) (hp1 : (cp, op) ∈ news) (hp2 : op.data = .cell (some (.int v tv)))
    (hi : IntsAre vs ns) (hlen : ns.length ≤ 9) (hpl : pl ≤ ns.length)
    (hb : BindsTo s (chainFd cp T₀ doc pm c' ctv) ⟨args, []⟩ [(Str.ofString "row", .ref row), (Str.ofString "place", .int (pl : Int) tp)])
    (h : ∀ v' tl ps' h' tk', Fr h₀ L h' m → News h₀ L h' ((100, tabObj ps') :: (tl ++ news)) → HitTab (tl ++ news) ps' → Found (tl ++ news) v' (chainFind ns v pl) → (∀ p ∈ tl, AllLt p.1 ((100, tabObj ps) :: news)) → Q v' { s with heap := h', toks := tk' }) :
    wpAny (model PR w) (ktrTop dp un gd cn cs L a ccd cl outer) (call (.ref q) args) Q E s := by
  k_with_none
  w_top off
  k_with "exec While BoolOp cons nil" => refine Stop.out ?_
  k_with "call ref cons nil" => ((with_reducible show wpAny _ _ (call (Value.ref 105) _) _ _ _); refine Stop.out ?_)
  revert X; unfold PR; k_fill; intro X
  have N : News h₀ L s.heap ((row, W.listOf vs.toArray n) :: (cp, op) :: (100, tabObj ps) :: news) := kst_newsOf N₀ (sub_in2 (.tail _ hrow) (.tail _ hp1))
  refine wpAny_call ?_
  k_dflt (refine' code_own ?k1 ?k2 ?k3 ?k4 ?k5 ?kA ?kF ?kK (List.Mem.tail _ (List.Mem.tail _ (List.Mem.tail _ hq))) (List.Mem.tail _ (List.Mem.tail _ (List.Mem.tail _ hc1))) hc2 ?k8 hb ?kB ?_ ?c2 ?c3 ?c4 ?c5; (case kA => exact rfl); (case kF => exact rfl); (case kK => assumption); (case k1 => k_asm); (case k2 => k_asm); (case k3 => k_asm); (case k4 => k_asm); (case k5 => k_asm); (case k8 => ktr_room); (case c5 => decide); (case kB => exact locs rfl); (case c2 => exact rfl); (case c3 => exact rfl); (case c4 => exact rfl); k_whole; intro g' L' h' FG' F' N' B' X' T' l1; (try dsimp only))
  clear hq hc1 hc2 hb
  generalize chainQual = Z
  conv =>
    pattern (occs := *) partsAt 16 0
    all_goals whnf
  dsimp only
  try k_fold
  k_steps
  rename_i hX F1 N1
  refine Stop.of ?_
  with_unfolding_all refine' ksw_while (σ := Nat × Nat) (fun _ => (row, W.listOf vs.toArray n) :: (cp, op) :: (100, tabObj ps) :: news) (fun c => [(Str.ofString "i", Value.int (c.1 : Int) c.2)]) (fun _ => True) [] (fun c => pl ≤ c.1 ∧ c.1 ≤ ns.length ∧ nextOff ns v c.1 = nextOff ns v pl) (fun c => ns.length - c.1) (pl, tp) F1 N1 trivial (fun p hp => by rw [List.mem_singleton.mp hp]; rfl) ⟨Nat.le_refl _, hpl, rfl⟩ ?_ ?_
  · rintro ⟨k, tk5⟩ kU kH kTk - ⟨hk1, hk2, hk3⟩ kFr kNews
    clear F1 N1
    dsimp only [kstB] at kFr
    dsimp only at kNews hk1 hk2 hk3
    try k_fold
    k_steps
    · rename_i F5 N5
      refine ksw_end (k + 1, _) F5 N5 (fun p hp => hp) trivial (fun p hp => by rw [List.mem_singleton.mp hp]; rfl) ?_ ?_ ?_
      · ksw_same
      · exact ⟨by dsimp only; omega, by dsimp only; omega, (nextOff_step (by omega) (by rw [← Int.toNat_natCast k]; assumption)).trans hk3⟩
      · dsimp only; omega
    · rename_i F5 N5
      have hne' : ns.getD k 0 ≠ v := by rw [← Int.toNat_natCast k]; assumption
      refine Stop.of ?_
      with_unfolding_all refine' ksw_while (σ := Nat × Nat) (fun _ => (row, W.listOf vs.toArray n) :: (cp, op) :: (100, tabObj ps) :: news) (fun c => [(Str.ofString "j", Value.int (c.1 : Int) c.2)]) (fun _ => True) [] (fun c => k + 1 ≤ c.1 ∧ c.1 ≤ ns.length ∧ nextOff ns v c.1 = nextOff ns v (k + 1)) (fun c => ns.length - c.1) (k + 1, _) F5 N5 trivial (fun p hp => by rw [List.mem_singleton.mp hp]; rfl) ⟨Nat.le_refl _, by omega, rfl⟩ ?_ ?_
      · rintro ⟨j, tj5⟩ jU jH jTk - ⟨hj1, hj2, hj3⟩ jFr jNews
        clear F5 N5
        dsimp only [kstB] at jFr
        dsimp only at jNews hj1 hj2 hj3
        try k_fold
        k_steps
        · rename_i F6 N6
          refine ksw_end (j + 1, _) F6 N6 (fun p hp => hp) trivial (fun p hp => by rw [List.mem_singleton.mp hp]; rfl) ?_ ?_ ?_
          · ksw_same
          · exact ⟨by dsimp only; omega, by dsimp only; omega, (nextOff_step (by omega) (by rw [← Int.toNat_natCast j]; assumption)).trans hj3⟩
          · dsimp only; omega
        · refine Stop.of ?_
          refine hit_spec (news := news) (ps := ps) B' (by assumption) X' (kst_newsOf (by assumption) sub_drop2) T' hC hn rfl (show dp + 1 + 5 < recursionLimit by omega) (show un + 3 + 50 < cLine by omega) hT (fun q' tl ps' h₅ tk₅ F₅ N₅ hT₅ hH₅ hl₅ => ?_)
          clear jFr jNews
          k_steps
          rename_i kF₆ kN₆ _ _
          exact h _ tl ps' _ _ kF₆ kN₆ hT₅ (by rw [chain_hit hk3 (by omega) hne' hj3 (by first | omega | (intro q; rw [← Int.toNat_natCast j] at q; simp_all))]; exact .some hH₅) hl₅
        · refine Stop.of ?_
          refine hit_spec (news := news) (ps := ps) B' (by assumption) X' (kst_newsOf (by assumption) sub_drop2) T' hC hn rfl (show dp + 1 + 5 < recursionLimit by omega) (show un + 3 + 50 < cLine by omega) hT (fun q' tl ps' h₅ tk₅ F₅ N₅ hT₅ hH₅ hl₅ => ?_)
          clear jFr jNews
          k_steps
          rename_i kF₆ kN₆ _ _
          exact h _ tl ps' _ _ kF₆ kN₆ hT₅ (by rw [chain_hit hk3 (by omega) hne' hj3 (by first | omega | (intro q; rw [← Int.toNat_natCast j] at q; simp_all))]; exact .some hH₅) hl₅
      · passes_own
    · rename_i hge _ kF₇ kN₇ _ _
      exact h _ [] ps _ _ kF₇ (kst_newsOf kN₇ fun p hp => .tail _ (.tail _ hp)) hT (by rw [chain_miss hk3 hge]; exact .none) (fun _ h => nomatch h)
  · passes_own
end
end Mine
end -- C9

section -- C10
open PySem PySem.W PyProof.Rows
set_option maxRecDepth 100000
set_option maxHeartbeats 1500000
namespace Mine
section
variable {w : World} {p : Program} {loose : List Str} {mean : ExcName → Option Value} {mg mb : Str → Option Value}
    {dp un : Nat} {gd : Option (List Code)} {cn : Str} {cs : Scope} {a : Addr} {ccd : Value} {cl : List (Str × Addr)} {outer : List Env} {A₀ : Around} {base h₀ : Heap} {L : Addr} {m : Str → Option Value}
    {s : Shared} {news : List (Addr × Obj)} {Q E : Value → Shared → Prop} 




noncomputable abbrev revNames : List Str := [Str.ofString "m", Str.ofString "i", Str.ofString "j", Str.ofString "found"]
theorem reverse_spec {q row : Addr} {vs : List Value} {ns : List Int} {n : Nat} {col : Int} {tc : Tok} {ps : Array Value} {d : Addr} {od : Obj} {fd : FuncData} {sl : Array (Option Value)} {find : Nat → Option (Int × Int)} {FIN : List (Addr × Obj) → Prop}
    (B : Below A₀ base outer h₀) (F : Fr h₀ L s.heap m) (X : (hd.heap_39 w.params).In h₀) (N₀ : News h₀ L s.heap ((100, tabObj ps) :: news)) (hF : FIN news) (hmono : ∀ l l', (∀ p ∈ l, p ∈ l') → FIN l → FIN l') (T : Top p loose mean mg mb h₀) (hC : CodeHd base 104 100) (hn : ∀ p ∈ news, p.1 ≠ 100) (hk : cs.kind = .function)
    (hdp : dp + 25 < recursionLimit) (hun : un + 250 < cLine) (hT : HitTab news ps) (H : FinderAt w p loose mean mg mb base q row ns.length find FIN) (Hf : Finds find ns.length)
    (hq : (q, fnObj (some d) fd sl) ∈ news) (hd1 : (d, od) ∈ news) (hd2 : LCg.NsObj od (fun x => if x = Str.ofString "search" then some (.ref q) else none))
    (hcol : col ≤ (ns.length : Int))
    (h : ∀ v' tl ps' h' tk', Fr h₀ L h' m → News h₀ L h' ((100, tabObj ps') :: (tl ++ news)) → HitTab (tl ++ news) ps' → Found (tl ++ news) v' (revFind find col ns.length) → (∀ p ∈ tl, AllLt p.1 ((100, tabObj ps) :: news)) → Q v' { s with heap := h', toks := tk' }) :
    wpAny (model PR w) (ktrTop dp un gd cn cs L a ccd cl outer) (call (.ref 98) [.ref q, .ref row, .int col tc]) Q E s := by
  k_with_none
  w_top off
  k_with "call ref cons nil" => refine Stop.out ?_
  k_with "call ref nil nil" => refine Stop.out ?_
  k_with "exec While BoolOp cons nil" => refine Stop.out ?_
  k_with "exec If Compare cons nil" => refine Stop.out ?_
  k_with "getMethod ref" => (k_dflt (refine' fn_method ?zql ?zqf ?zqd ?zqn ?zqv ?zqh ?_; (case zql => first | exact fn_no_span | exact fn_no_search); (case zqf => exact News.get (by k_asm) (by k_mem)); (case zqd => exact News.get (by k_asm) (by k_mem)); (case zqn => assumption); (case zqv => exact if_pos rfl); (case zqh => exact rfl); k_whole))
  k_with "truthy ref" => (k_dflt (refine' fn_truthy ?zqf ?_; (case zqf => exact News.get (by k_asm) (by k_mem)); k_whole))
  revert X; unfold PR; k_fill; intro X
  obtain ⟨sh, sg, sd, st, so⟩ := s
  dsimp only at F N₀ h
  have N : News h₀ L sh ((q, fnObj (some d) fd sl) :: (d, od) :: (100, tabObj ps) :: news) := kst_newsOf N₀ (sub_in2 (.tail _ hq) (.tail _ hd1))
  refine wpAny_call ?_
  k_dflt (refine' code_def ?k1 ?k2 ?k3 ?k4 ?k5 ?kA ?kF ?kK ?k6 ?k7 ?k8 ?k9 ?kB ?_ ?c2 ?c3 ?c4 ?c5; (case kA => exact rfl); (case kF => exact rfl); (case kK => assumption); (case k1 => k_asm); (case k2 => k_asm); (case k3 => k_asm); (case k4 => k_asm); (case k5 => k_asm); (case k6 => k_is); (case k7 => k_is); (case k8 => ktr_room); (case k9 => exact BindsTo.of_eq rfl); (case c5 => decide); (case kB => exact locs rfl); (case c2 => exact rfl); (case c3 => exact rfl); (case c4 => exact rfl); k_whole; intro g' L' h' FG' F' N' B' X' T'; (try dsimp only); (try k_fold))
  clear N N₀ F FG'
  obtain ⟨mm, F0⟩ := fr_gen F' [(Str.ofString "prog", .ref q), (Str.ofString "chars", .ref row), (Str.ofString "col", .int col tc)] (And.intro rfl (And.intro rfl (And.intro rfl True.intro)))
  clear F'
  dsimp only [kstB] at F0
  k_steps
  refine Stop.of ?_
  refine H 0 0 _ B' F0 X' (kst_newsOf N' sub_drop2) hF T' hn rfl (show dp + 1 + 15 < recursionLimit by omega) (show un + 3 + 150 < cLine by omega) hT (Nat.zero_le _) (.inl ⟨rfl, rfl⟩) (fun v1 tl1 ps1 h1 tk1 F1 N1 hT1 hf1 hl1 => ?_)
  clear F0 N'
  try dsimp only
  generalize e0 : find 0 = r0 at hf1
  cases hf1
  · k_steps
    rename_i kF kN _ _
    exact h _ tl1 ps1 _ _ kF kN hT1 (by unfold revFind; rw [e0]; exact .none) hl1
  · rename_i q1 i1 j1 hH1
    obtain ⟨hq1, hq2, hq3, hq4, hq5, hq6, hq7, hq8, hq9⟩ := id hH1
    replace N1 := kst_newsOf N1 (sub_in2 (.tail _ hq1) (.tail _ hq2))
    k_steps
    rename_i F2 N2
    refine Stop.of ?_
    refine span_spec B' F2 X' (kst_newsOf N2 sub_drop2) T' rfl (show dp + 1 + 5 < recursionLimit by omega) (show un + 3 + 50 < cLine by omega) (hH1.mono fun _ hp => .tail _ hp) (fun D2 t2 u2 h2 tk2 F3 N3 hl2 => ?_)
    try dsimp only
    clear F2 N2
    k_steps
    rename_i F4 N4
    refine Stop.of ?_
    obtain ⟨m9, F9, hm9⟩ := fr_open F4 [(Str.ofString "prog", .ref q), (Str.ofString "chars", .ref row), (Str.ofString "col", .int col tc), (Str.ofString "m", .ref q1), (Str.ofString "i", .int i1 t2), (Str.ofString "j", .int j1 u2), (Str.ofString "found", .none)] (And.intro rfl (And.intro rfl (And.intro rfl (And.intro rfl (And.intro rfl (And.intro rfl (And.intro rfl True.intro)))))))
    clear F4
    with_unfolding_all refine' ksw_while (σ := RevSt) (fun c => (q, fnObj (some d) fd sl) :: (d, od) :: (100, tabObj c.ps) :: (c.tl ++ news)) (fun (c : RevSt) => [(Str.ofString "m", .ref c.q), (Str.ofString "i", .int c.i c.ti), (Str.ofString "j", .int c.j c.tj), (Str.ofString "found", c.fv)]) (fun c => HitTab (c.tl ++ news) c.ps ∧ HitIn (c.tl ++ news) c.q c.i c.j ∧ Found (c.tl ++ news) c.fv c.fo ∧ (∀ p ∈ c.tl, AllLt p.1 ((100, tabObj ps) :: news))) [] (fun c => revGo find col c.fuel c.fo (c.i, c.j) = revFind find col ns.length ∧ (ns.length : Int) + 1 ≤ c.j + (c.fuel : Int) ∧ ∃ pl, find pl = some (c.i, c.j)) (fun c => c.fuel) ⟨q1, i1, t2, j1, u2, .none, none, tl1, ps1, ns.length + 1⟩ F9 (kst_newsOf N4 ?n9) ⟨hT1, hH1, .none, hl1⟩ hm9.2.2.2.all ⟨?p9, ?p8, ⟨0, e0⟩⟩ ?_ ?e9
    case n9 => exact sub_c (.tail _ (.tail _ (List.mem_append_right _ hq))) (sub_c (.tail _ (.tail _ (List.mem_append_right _ hd1))) (sub_t sub_id))
    case p9 => unfold revFind; rw [e0]
    case p8 => have := (Hf.lo 0 i1 j1 e0).1; have := (Hf.lo 0 i1 j1 e0).2.1; dsimp only; omega
    case e9 => passes_own
    rintro ⟨qc, ic, tic, jc, tjc, fvc, foc, tlc, psc, fuel⟩ kU kH kTk ⟨hTc, hHc, hFc, hlc⟩ ⟨hP1, hP2, plc, hP3⟩ kFr kNews
    clear F9 N4
    dsimp only [kstB] at kFr
    dsimp only at kNews hTc hHc hFc hlc hP1 hP2 hP3
    obtain ⟨mt, hFt, hmt, hot⟩ : ∃ mt, Fr g' L' kH mt ∧ FrOk mt [(Str.ofString "prog", .ref q), (Str.ofString "chars", .ref row), (Str.ofString "col", .int col tc), (Str.ofString "m", .ref qc), (Str.ofString "i", .int ic tic), (Str.ofString "j", .int jc tjc), (Str.ofString "found", fvc)] ∧ Off revNames m9 mt :=
      ⟨_, kFr, And.intro hm9.1 (And.intro hm9.2.1 (And.intro hm9.2.2.1 (And.intro rfl (And.intro rfl (And.intro rfl (And.intro rfl True.intro)))))), off_if rfl (off_if rfl (off_if rfl (off_if rfl fun _ _ => rfl)))⟩
    have kF0 := fr_as hFt _ hmt.all
    clear kFr hFt
    dsimp only [kstB] at kF0
    try k_fold
    k_steps
    all_goals have hjc := Hf.lo plc ic jc hP3
    · rename_i hi1 hj1 h5 F5 N5
      refine Stop.of ?_
      have hcnd : ic < col ∧ jc ≤ col := ⟨hi1, hj1⟩
      refine wpAny_mono (Q := fun f s₂ => Stop (f = Flow.next ∧ ∃ h2 tk2 jn tn m2, s₂ = ⟨h2, sg, sd, tk2, so⟩ ∧ Fr g' L' h2 m2 ∧ News g' L' h2 ((q, fnObj (some d) fd sl) :: (d, od) :: (100, tabObj psc) :: (tlc ++ news)) ∧ FrOk m2 [(Str.ofString "prog", .ref q), (Str.ofString "chars", .ref row), (Str.ofString "j", .int jn tn), (Str.ofString "found", .ref qc)] ∧ Off revNames m9 m2 ∧ jn = (if ic = jc then jc + 1 else jc))) ?_ (fun f s₂ hpost => ?_) (fun _ _ z => z)
      · refine wpAny_If ?_
        k_steps
        · rename_i hij h6 F6 N6
          refine .of ⟨rfl, _, _, _, _, _, rfl, F6, N6, And.intro rfl (And.intro rfl (And.intro rfl (And.intro rfl True.intro))), by repeat (first | exact hot | refine off_if rfl ?_ | refine off_same (by first | exact hm9.1 | exact hm9.2.1 | exact hm9.2.2.1) ?_), (if_pos hij).symm⟩
        · rename_i hij
          refine .of ⟨rfl, _, _, _, _, _, rfl, F5, N5, And.intro rfl (And.intro rfl (And.intro rfl (And.intro rfl True.intro))), by repeat (first | exact hot | refine off_if rfl ?_ | refine off_same (by first | exact hm9.1 | exact hm9.2.1 | exact hm9.2.2.1) ?_), (if_neg hij).symm⟩
      obtain ⟨rfl, h2, tk2, jn, tn, m2, rfl, F2, N2, hm2, ho2, hpl0⟩ := hpost.out
      clear hi1 hj1 F5 N5 hmt hot
      have F5 := fr_as F2 _ hm2.all
      dsimp only [kstB] at F5
      show wpAny _ _ (execs _ _) _ _ _
      k_steps
      refine Stop.of ?_
      refine H jn.toNat _ _ B' (by assumption) X' (kst_newsOf (by assumption) sub_drop2) (hmono _ _ (fun _ hp => List.mem_append_right _ hp) hF) T' (hn_join hlc hn) rfl (show dp + 1 + 15 < recursionLimit by omega) (show un + 3 + 150 < cLine by omega) hTc (by split at hpl0 <;> omega) (.inr (by rw [Int.toNat_of_nonneg (by split at hpl0 <;> omega)])) (fun v2 tl2 ps2 h2 tk2 F6 N6 hT5 hf5 hl5 => ?_)
      try dsimp only
      clear F5 N2
      rw [← List.append_assoc] at N6 hT5 hf5
      generalize e1 : find jn.toNat = r5 at hf5
      rw [hpl0] at e1
      cases hf5
      · k_steps
        rename_i kF6 kN6 _ _
        exact h _ (tl2 ++ tlc) ps2 _ _ kF6 kN6 hT5 (by rw [← hP1, revGo_none (by omega) hcnd e1]; exact .some (hHc.mono sub_app)) (hl_join hl5 hlc)
      · rename_i q3 i3 j3 hH3
        obtain ⟨hr1, hr2, hr3, hr4, hr5, hr6, hr7, hr8, hr9⟩ := id hH3
        replace N6 := kst_newsOf N6 (sub_in2 (.tail _ hr1) (.tail _ hr2))
        k_steps
        refine Stop.of ?_
        refine span_spec B' (by assumption) X' (kst_newsOf (by assumption) sub_drop2) T' rfl (show dp + 1 + 5 < recursionLimit by omega) (show un + 3 + 50 < cLine by omega) (hH3.mono fun _ hp => .tail _ hp) (fun D3 t3 u3 h3 tk3 F7 N7 hl7 => ?_)
        try dsimp only
        k_steps
        rename_i F8 N8
        have hup := Hf.up plc ic jc hP3 i3 j3 e1
        refine ksw_end ⟨q3, i3, t3, j3, u3, .ref qc, some (ic, jc), tl2 ++ tlc, ps2, fuel - 1⟩ F8 N8 ?_ ⟨hT5, hH3, .some (hHc.mono sub_app), hl_join hl5 hlc⟩ ?_ ?_ ⟨?_, ?_, ⟨_, e1⟩⟩ ?_
        · exact sub_c (.tail _ (.tail _ (List.mem_append_right _ hq))) (sub_c (.tail _ (.tail _ (List.mem_append_right _ hd1))) (sub_t sub_id))
        · intro p hp
          simp only [List.mem_cons, List.not_mem_nil, or_false] at hp
          rcases hp with rfl | rfl | rfl | rfl <;> rfl
        · refine off_rest ?_; show Off revNames m9 _; repeat (first | exact ho2 | refine off_if rfl ?_ | refine off_same (by first | exact hm9.1 | exact hm9.2.1 | exact hm9.2.2.1) ?_)
        · exact (revGo_some (by omega) hcnd e1).symm.trans hP1
        · dsimp only; omega
        · dsimp only; omega
    · rename_i kF6 kN6 _ _
      exact h _ tlc psc _ _ kF6 (kst_newsOf kN6 sub_drop2) hTc (by rw [← hP1, revGo_out (by omega)]; exact hFc) hlc
    · rename_i kF6 kN6 _ _
      exact h _ tlc psc _ _ kF6 (kst_newsOf kN6 sub_drop2) hTc (by rw [← hP1, revGo_out (by omega)]; exact hFc) hlc
end
end Mine
end -- C10

end -- shared lines

section -- C11
open PySem PySem.W PyProof.Rows
set_option maxRecDepth 100000
set_option maxHeartbeats 8000000
namespace Mine
theorem nextOff_ge {ns : List Int} {v : Int} : ∀ (k i : Nat), ns.length - i = k → i ≤ nextOff ns v i ∧ (i ≤ ns.length → nextOff ns v i ≤ ns.length)
  | 0, i, e => by rw [nextOff_stop (by omega)]; omega
  | k + 1, i, e => by
    by_cases h : i < ns.length ∧ ns.getD i 0 = v
    · have ih := nextOff_ge (ns := ns) (v := v) k (i + 1) (by omega)
      rw [nextOff_step h.1 h.2] at ih
      omega
    · rw [nextOff_stop h]; omega
theorem nextOff_le {ns : List Int} {v : Int} {i : Nat} : i ≤ nextOff ns v i := (nextOff_ge _ i rfl).1
theorem nextOff_len {ns : List Int} {v : Int} {i : Nat} (h : i ≤ ns.length) : nextOff ns v i ≤ ns.length := (nextOff_ge _ i rfl).2 h
theorem chain_finds {ns : List Int} {v : Int} : Finds (chainFind ns v) ns.length := by
  have lo : ∀ pl i j, chainFind ns v pl = some (i, j) → (pl : Int) ≤ i ∧ i < j ∧ i < (ns.length : Int) ∧ j ≤ (ns.length : Int) := by
    intro pl i j h
    unfold chainFind at h
    split at h
    · rename_i hlt
      cases h
      have h1 : pl ≤ nextOff ns v pl := nextOff_le
      have h2 : nextOff ns v pl + 1 ≤ nextOff ns v (nextOff ns v pl + 1) := nextOff_le
      have h3 : nextOff ns v (nextOff ns v pl + 1) ≤ ns.length := nextOff_len (by omega)
      omega
    · cases h
  refine ⟨fun pl i j h => ?_, fun pl i j h i' j' h' => ?_⟩
  · have := lo pl i j h; omega
  · have h1 := lo pl i j h
    have h2 := lo _ i' j' h'
    rw [if_neg (by omega)] at h2
    omega
theorem unlike_finds {ns : List Int} : Finds (unlikeFind ns) ns.length := by
  have lo : ∀ pl i j, unlikeFind ns pl = some (i, j) → (pl : Int) ≤ i ∧ i = j ∧ i < (ns.length : Int) := by
    intro pl i j h
    unfold unlikeFind at h
    split at h
    · rename_i hlt
      cases h
      have h1 : pl ≤ nextOff ns 0 pl := nextOff_le
      omega
    · cases h
  refine ⟨fun pl i j h => ?_, fun pl i j h i' j' h' => ?_⟩
  · have := lo pl i j h; omega
  · have h1 := lo pl i j h
    have h2 := lo _ i' j' h'
    rw [if_pos h1.2.1] at h2
    omega
section
variable {w : World} {p : Program} {loose : List Str} {mean : ExcName → Option Value} {mg mb : Str → Option Value} {base : Heap} {q row : Addr} {vs : List Value} {ns : List Int} {n : Nat} {v : Int}
theorem chain_finder (hC : CodeHd base 104 100) (hi : IntsAre vs ns) (hlen : ns.length ≤ 9) : FinderAt w p loose mean mg mb base q row ns.length (chainFind ns v) (fun news => (row, W.listOf vs.toArray n) ∈ news ∧ ChainIn news q v) := by
  intro dp un gd cn cs a ccd cl outer A₀ h₀ L m s news Q E ps pl tp args B F X N hF T hn hk hdp hun hT hpl harg h
  obtain ⟨hrow, hq, hd1, hd2, hp1, hp2, hT1, hc1, hc2⟩ := hF
  rcases harg with ⟨rfl, rfl⟩ | rfl
  · exact chain_call B F X N hrow T hC hn hk hdp hun hT hq hc1 hc2 hp1 hp2 hi hlen hpl (kdv_binds N (.tail _ hT1) rfl rfl rfl) h
  · exact chain_call B F X N hrow T hC hn hk hdp hun hT hq hc1 hc2 hp1 hp2 hi hlen hpl (kdv_binds N (.tail _ hT1) rfl rfl rfl) h
theorem unlike_finder (hC : CodeHd base 104 100) (hi : IntsAre vs ns) (hlen : ns.length ≤ 9) : FinderAt w p loose mean mg mb base q row ns.length (unlikeFind ns) (fun news => (row, W.listOf vs.toArray n) ∈ news ∧ UnlikeIn news q) := by
  intro dp un gd cn cs a ccd cl outer A₀ h₀ L m s news Q E ps pl tp args B F X N hF T hn hk hdp hun hT hpl harg h
  obtain ⟨hrow, hq, hd1, hd2, hT1, hc1, hc2⟩ := hF
  rcases harg with ⟨rfl, rfl⟩ | rfl
  · exact unlike_call B F X N hrow T hC hn hk hdp hun hT hq hc1 hc2 hi hlen hpl (kdv_binds N (.tail _ hT1) rfl rfl rfl) h
  · exact unlike_call B F X N hrow T hC hn hk hdp hun hT hq hc1 hc2 hi hlen hpl (kdv_binds N (.tail _ hT1) rfl rfl rfl) h
end
end Mine
end -- C11

section -- G1
open PySem PySem.W PyProof.Rows PySem.Spec
set_option maxRecDepth 100000
set_option maxHeartbeats 8000000
namespace Mine
section
variable {prog : Program} {w : World} {A : Around} {s : Shared} {env : Env} {h₀ : Heap} {x : Str} {c : Addr} {body : List Stmt} {Q : Flow → Shared → Prop} {E : Value → Shared → Prop} {px pos : Pos} {iter : Expr}
/-- an object that is no code object's -/
noncomputable def NotCode (o : Obj) : Prop := ∀ vs q t, o.data = .fields vs → vs[1]? ≠ some (.str q t)
theorem HitTab.only2 {n n' : List (Addr × Obj)} {ps : Array Value} (hs : ∀ p ∈ n, p ∈ n' ∨ NotCode p.2) : HitTab n ps → HitTab n' ps
  | .empty => .empty
  | .full h1 h2 => (hs _ h1).elim (fun h => .full h h2) fun h => by
    obtain ⟨vs, t, e1, e2⟩ := h2.out
    exact absurd e2 (h vs _ t e1)
theorem notCode_list {vs : Array Value} {n : Nat} : NotCode (W.listOf vs n) := fun _ _ _ e => nomatch e
theorem notCode_cell {o : Obj} {v : Option Value} (h : o.data = .cell v) : NotCode o := fun _ _ _ e => by rw [h] at e; cases e
/-- a turn's end, where the loop's name is a cell -/
noncomputable def CellPost (h₀ : Heap) (L c I : Addr) (obj : Obj) (s : Shared) (J : (Str → Option Value) → List (Addr × Obj) → Prop) (Q : Flow → Shared → Prop) (f : Flow) (s₂ : Shared) : Prop :=
  match f with
  | .ret v => Q (.ret v) s₂
  | .brk => Q .next s₂
  | _ => ∃ h' tk' m' nw' o' w', s₂ = { s with heap := h', toks := tk' } ∧ Fr h₀ L h' m' ∧ News h₀ L h' ((c, o') :: (I, obj) :: nw') ∧ o'.data = .cell w' ∧ (∀ p ∈ nw', @Ne Nat p.1 I) ∧ J m' nw'
/-- what is to be shown where a for over a cell's name has its iterator -/
noncomputable def CellAt (prog : Program) (w : World) (A : Around) (env : Env) (x : Str) (px : Pos) (body : List Stmt) (Q : Flow → Shared → Prop) (E : Value → Shared → Prop) (it : Value) (s₂ : Shared) : Prop :=
  codeAny (model prog w) A (.forLoop (.Name x px) it body [] env) (fun r s' => match r with | .ok f => Q f s' | .error e => cameBackBy (model prog w) A env E e s') s₂
theorem for_cell (h : wpAny (model prog w) A (eval iter env) (fun xv s₁ => wpAny (model prog w) A (pyIter xv) (fun it s₂ => CellAt prog w A env x px body Q E it s₂) E s₁) E s)
    (hs : ∀ x, foldedSetIterable iter env x = pure x := by intro _; rfl) :
    wpAny (model prog w) A (exec (.For (.Name x px) iter body [] pos) env) Q E s := wpAny_For h hs
theorem cell_range {r : Addr} {a₀ b₀ : Int} {t₀ u₀ v₀ : Tok} {n : Nat} {m₀ : Str → Option Value} {nw₀ : List (Addr × Obj)} {o₀ : Obj} {w₀ : Option Value} {cn : Str} {cs : Scope} {L fa : Addr} {ccd : Value} {cl : List (Str × Addr)}
    (J : Nat → (Str → Option Value) → List (Addr × Obj) → Prop)
    (hh : A.handled = none) (hr : IsRange s.heap r a₀ b₀ 1 t₀ u₀ v₀) (hsmall : Builtin.Range.small a₀ b₀ 1 = true) (hn : Builtin.Range.rangeSize a₀ b₀ 1 = (n : Int))
    (F : Fr h₀ L s.heap m₀) (N : News h₀ L s.heap ((c, o₀) :: nw₀)) (ho : o₀.data = .cell w₀) (hc : cl.lookup x = some c) (hoff : ∀ p ∈ nw₀, @Ne Nat p.1 c) (h0 : J 0 m₀ nw₀)
    (hk : cs.kind = .function) (hx : (envX cn cs L fa ccd cl).kindOf x = some .cell) (hE : PassesOwn (model prog w) A (envX cn cs L fa ccd cl) E)
    (hJ : ∀ i m nw, J i m nw → ∀ p ∈ nw, @Ne Nat p.1 c)
    (turn : ∀ i t m nw o h tk I obj, i < n → o.data = .cell (some (.int (a₀ + (i : Int)) t)) → J i m nw → (∀ p ∈ nw, @Ne Nat p.1 I) → @Ne Nat I c → NotCode obj → Fr h₀ L h m → News h₀ L h ((c, o) :: (I, obj) :: nw) → 
      wpAny (model prog w) A (execs body (envX cn cs L fa ccd cl)) (CellPost h₀ L c I obj s (J (i + 1)) Q) E { s with heap := h, toks := tk })
    (done : ∀ m nw o w h tk, o.data = .cell w → J n m nw → Fr h₀ L h m → News h₀ L h ((c, o) :: nw) → Q .next { s with heap := h, toks := tk }) :
    wpAny (model prog w) A (pyIter (.ref r)) (fun it s₂ => CellAt prog w A (envX cn cs L fa ccd cl) x px body Q E it s₂) E s := by
  refine wpAny_pyIter_range hr hsmall ?_
  have W : Walks prog w A s.heap.objs.size [s.heap.objs.size] [s.heap.objs.size] n (fun i v => i < n ∧ ∃ t, v = .int (a₀ + i * 1) t)
      (fun i h => IsRangeIter h s.heap.objs.size (a₀ + (i : Nat) * 1) ((n : Int) - (i : Nat)) 1) := (Walks.range hh _ a₀ 1 n).bound
  have hI0 : h₀.get? s.heap.objs.size = none := next_is_new F
  have hLI : L ≠ s.heap.objs.size := fun e => absurd F.ns.lt (e ▸ Nat.lt_irrefl _)
  have hcI : c ≠ s.heap.objs.size := fun e => absurd (Heap.lt_size (N (c, o₀) (.head _)).1) (e ▸ Nat.lt_irrefl _)
  have hnI : ∀ p ∈ nw₀, @Ne Nat p.1 s.heap.objs.size := fun p hp e => absurd (Heap.lt_size (N p (.tail _ hp)).1) (e ▸ Nat.lt_irrefl _)
  generalize hI : s.heap.objs.size = I at *
  refine codeAny_forLoop
    (fun k s' => ∃ h' tk m' nw' i o' w', s' = { s with heap := h', toks := tk } ∧ IsRangeIter h' I (a₀ + (i : Nat) * 1) ((n : Int) - (i : Nat)) 1 ∧ Fr h₀ L h' m' ∧ News h₀ L h' ((c, o') :: nw') ∧ o'.data = .cell w' ∧ (∀ p ∈ nw', @Ne Nat p.1 I) ∧ J i m' nw' ∧ i ≤ n ∧ k = n + 1 - i) ?_ (n + 1)
    ⟨s.heap.push _, s.toks, m₀, nw₀, 0, o₀, w₀, rfl, (by show IsRangeIter _ _ _ _ _; rw [hn, ← hI]; simpa using Heap.get?_push_size _ rfl), F.push _, (fun p hp => ⟨Heap.get?_push_of_some _ (N p hp).1, (N p hp).2⟩), ho, hnI, h0, Nat.zero_le _, rfl⟩
  rintro k s' ⟨h', tk, m', nw', i, o', w', rfl, hst, F', N', ho', hn', hJ', hi, rfl⟩
  have next : ∀ h₁ : Heap, (∀ b o, b ∉ [I] → h'.get? b = some o → h₁.get? b = some o) → Fr h₀ L h₁ m' ∧ News h₀ L h₁ ((c, o') :: nw') := fun h₁ hk₁ =>
    ⟨⟨F'.ns.at' fun o e => hk₁ _ o (by simpa using hLI) e, fun b o e => hk₁ b o (fun hb => by rw [List.mem_singleton.mp hb, hI0] at e; cases e) (F'.keep b o e), F'.above⟩,
     fun p hp => ⟨hk₁ _ _ (fun hb => by
        rcases List.mem_cons.mp hp with rfl | hp
        · exact hcI (List.mem_singleton.mp hb)
        · exact hn' p hp (List.mem_singleton.mp hb)) (N' p hp).1, (N' p hp).2⟩⟩
  by_cases hlt : i < n
  · refine W.item i _ _ _ hlt hst fun v h₁ tk₁ hP hst₁ hk₁ => ?_
    obtain ⟨F₁, N₁⟩ := next h₁ hk₁
    obtain ⟨_, t, rfl⟩ := hP
    have e1 : a₀ + (i : Int) * 1 = a₀ + (i : Int) := by omega
    rw [e1]
    refine wpAny_assign_Name ?_
    refine wpAny_storeName_cell hk hx hc ⟨o', (N₁ _ (.head _)).1, ho'⟩ fun h₂ hv hs => ?_
    obtain ⟨o₂, ho₂, hd₂⟩ := hv
    have hmem := N₁ (c, o') (.head _)
    have F₂ : Fr h₀ L h₂ m' := ⟨F₁.ns.sameBut hs (Ne.symm hmem.2.1), fun b ob e => (hs.2 b (fun q => by rw [q, hmem.2.2] at e; cases e)).trans (F₁.keep b ob e), F₁.above⟩
    have hst₂ : IsRangeIter h₂ I (a₀ + ((i + 1 : Nat) : Int) * 1) ((n : Int) - ((i + 1 : Nat) : Int)) 1 := W.frame _ _ _ hst₁ fun b hb o e => (hs.2 b (fun q => hcI (by rw [← q]; exact List.mem_singleton.mp hb))).trans e
    obtain ⟨obj, hobj, hobd⟩ : ∃ obj, h₂.get? I = some obj ∧ NotCode obj := ⟨_, hst₂, fun vs q t e => by
      dsimp only at e
      cases e
      intro e2
      simp [rawInt] at e2⟩
    have N₂ : News h₀ L h₂ ((c, o₂) :: (I, obj) :: nw') := by
      intro p hp
      rcases List.mem_cons.mp hp with rfl | hp
      · exact ⟨ho₂, hmem.2⟩
      · rcases List.mem_cons.mp hp with rfl | hp
        · exact ⟨hobj, Ne.symm hLI, hI0⟩
        · have q := N₁ p (.tail _ hp)
          exact ⟨(hs.2 p.1 (hJ i m' nw' hJ' p hp)).trans q.1, q.2⟩
    refine wpAny_passesOwn hE (wpAny_mono (turn i t m' nw' o₂ h₂ _ I obj hlt hd₂ hJ' hn' (Ne.symm hcI) hobd F₂ N₂) (fun f s₃ h₃ => ?_) fun _ _ e => e)
    have fin : (∃ h' tk' m' nw' o' w', s₃ = { s with heap := h', toks := tk' } ∧ Fr h₀ L h' m' ∧ News h₀ L h' ((c, o') :: (I, obj) :: nw') ∧ o'.data = .cell w' ∧ (∀ p ∈ nw', @Ne Nat p.1 I) ∧ J (i + 1) m' nw') →
        ∃ mm, mm < n + 1 - i ∧ ∃ h' tk m' nw' i o' w', s₃ = { s with heap := h', toks := tk } ∧ IsRangeIter h' I (a₀ + (i : Nat) * 1) ((n : Int) - (i : Nat)) 1 ∧ Fr h₀ L h' m' ∧ News h₀ L h' ((c, o') :: nw') ∧ o'.data = .cell w' ∧ (∀ p ∈ nw', @Ne Nat p.1 I) ∧ J i m' nw' ∧ i ≤ n ∧ mm = n + 1 - i := by
      rintro ⟨h₃', tk₃, m₃, nw₃, o₃, w₃, rfl, F₃, N₃, hd₃, hI₃, hJ₃⟩
      refine ⟨n + 1 - (i + 1), by omega, h₃', tk₃, m₃, nw₃, i + 1, o₃, w₃, rfl, ?_, F₃, fun p hp => N₃ p ?_, hd₃, hI₃, hJ₃, hlt, rfl⟩
      · refine W.frame _ _ _ hst₂ fun b hb o e => ?_
        rw [List.mem_singleton.mp hb] at e ⊢
        rw [hobj] at e
        cases e
        exact (N₃ (I, obj) (.tail _ (.head _))).1
      · rcases List.mem_cons.mp hp with rfl | hp
        · exact .head _
        · exact .tail _ (.tail _ hp)
    cases f with
    | ret v => exact h₃
    | brk => exact h₃
    | cont => exact fin h₃
    | next => exact fin h₃
  · have hin : i = n := by omega
    subst hin
    refine W.done _ _ _ hst fun h₁ tk₁ hk₁ => wpAny_execs_nil ?_
    obtain ⟨F₁, N₁⟩ := next h₁ hk₁
    exact done m' nw' o' w' h₁ tk₁ ho' hJ' F₁ N₁
end
end Mine
end -- G1

section -- M1
open PySem PySem.W PyProof.Rows
set_option maxRecDepth 100000
set_option maxHeartbeats 8000000
namespace Mine
/-- the last difference that isn't nought below c -/
noncomputable def topAt (d : List Int) : Nat → Int
  | 0 => 0
  | k + 1 => if d.getD k 0 = 0 then topAt d k else d.getD k 0
/-- the number made of r figures from c on -/
noncomputable def upTo (d : List Int) (b : Int) (c : Nat) : Nat → Int
  | 0 => 0
  | r + 1 => d.getD c 0 + b * upTo d b (c + 1) r
theorem worth_up {d : List Int} {b : Int} (r k : Nat) : worthTo d b k + b ^ k * upTo d b k r = worthTo d b (k + r) := by
  induction r generalizing k with
  | zero => simp [upTo]
  | succ r ih =>
    have e := ih (k + 1)
    have e2 : k + (r + 1) = k + 1 + r := by omega
    rw [e2, ← e]
    simp only [worthTo, upTo, Int.pow_succ]
    grind
theorem worth_up0 {d : List Int} {b : Int} (n : Nat) : worthTo d b n = upTo d b 0 n := by
  have e := worth_up (d := d) (b := b) n 0
  simp [worthTo] at e
  exact e.symm
/-- a number's upper part, and what comes into it from below -/
theorem up_div {d : List Int} {b : Int} (hb : 2 ≤ b) (x : Nat → Int) (hx0 : x 0 = 0) (n : Nat)
    (hx : ∀ k, k < n → x (k + 1) = Int.fdiv (d.getD k 0 + x k) b) (c : Nat) (hc : c ≤ n) :
    Int.fdiv (worthTo d b n) (b ^ c) = upTo d b c (n - c) + x c := by
  induction c with
  | zero => rw [worth_up0]; simp [hx0]
  | succ c ih =>
    have e := ih (by omega)
    have e1 : n - c = (n - (c + 1)) + 1 := by omega
    rw [e1] at e
    simp only [upTo] at e
    have hp : 0 ≤ b ^ c := Int.pow_nonneg (by omega)
    rw [hx c (by omega), Int.pow_succ]
    rw [Int.fdiv_eq_ediv_of_nonneg _ hp] at e
    rw [Int.fdiv_eq_ediv_of_nonneg _ (Int.mul_nonneg hp (by omega)), Int.fdiv_eq_ediv_of_nonneg _ (by omega : (0:Int) ≤ b), ← Int.ediv_ediv_of_nonneg hp, e]
    have e3 : d.getD c 0 + b * upTo d b (c + 1) (n - (c + 1)) + x c = (d.getD c 0 + x c) + b * upTo d b (c + 1) (n - (c + 1)) := by omega
    rw [e3, Int.add_mul_ediv_left _ _ (by omega)]
    omega
theorem up_mod {d : List Int} {b : Int} (hb : 2 ≤ b) (x : Nat → Int) (hx0 : x 0 = 0) (n : Nat)
    (hx : ∀ k, k < n → x (k + 1) = Int.fdiv (d.getD k 0 + x k) b) (c : Nat) (hc : c < n) :
    Int.fmod (Int.fdiv (worthTo d b n) (b ^ c)) b = Int.fmod (d.getD c 0 + x c) b := by
  rw [up_div hb x hx0 n hx c (by omega)]
  have e1 : n - c = (n - (c + 1)) + 1 := by omega
  rw [e1]
  simp only [upTo]
  have e3 : d.getD c 0 + b * upTo d b (c + 1) (n - (c + 1)) + x c = (d.getD c 0 + x c) + b * upTo d b (c + 1) (n - (c + 1)) := by omega
  rw [e3, Int.add_mul_fmod_self_left]
theorem getD_zip {ls rs : List Int} {n : Nat} (f : Nat → Int) {k : Nat} (hk : k < n) : ((List.range n).map f).getD k 0 = f k := range_map_getD hk
theorem worth_congr {d e : List Int} {b : Int} (n : Nat) (h : ∀ k, k < n → d.getD k 0 = e.getD k 0) : worthTo d b n = worthTo e b n := by
  induction n with
  | zero => rfl
  | succ n ih => simp only [worthTo]; rw [ih (fun k hk => h k (by omega)), h n (by omega)]
theorem worth_add {ls rs : List Int} {b : Int} (n m : Nat) (hm : m ≤ n) : worthTo ((List.range n).map (fun k => ls.getD k 0 + rs.getD k 0)) b m = worthTo ls b m + worthTo rs b m := by
  induction m with
  | zero => rfl
  | succ m ih =>
    simp only [worthTo]; rw [ih (by omega), range_map_getD (by omega), Int.add_mul]; omega
theorem worth_sub {ls rs : List Int} {b : Int} (n m : Nat) (hm : m ≤ n) : worthTo ((List.range n).map (fun k => ls.getD k 0 - rs.getD k 0)) b m = worthTo ls b m - worthTo rs b m := by
  induction m with
  | zero => rfl
  | succ m ih =>
    simp only [worthTo]; rw [ih (by omega), range_map_getD (by omega), Int.sub_mul]; omega
section
variable {ls rs : List Int} {b : Int} {n : Nat}
theorem dig (hb : 2 ≤ b) (hld : ∀ x ∈ ls, 0 ≤ x ∧ x < b) (k : Nat) : 0 ≤ ls.getD k 0 ∧ ls.getD k 0 < b := by
  by_cases h : k < ls.length
  · have e : ls.getD k 0 = ls[k] := by simp [List.getD, h]
    rw [e]; exact hld _ (List.getElem_mem h)
  · have e : ls.getD k 0 = 0 := by simp [List.getD, h]
    rw [e]; omega
theorem carry_01 (hb : 2 ≤ b) (hl : ∀ k, 0 ≤ ls.getD k 0 ∧ ls.getD k 0 < b) (hr : ∀ k, 0 ≤ rs.getD k 0 ∧ rs.getD k 0 < b) (k : Nat) : carryAt ls rs b k = 0 ∨ carryAt ls rs b k = 1 := by
  induction k with
  | zero => exact .inl rfl
  | succ k ih =>
    simp only [carryAt]
    have h1 := hl k
    have h2 := hr k
    rw [Int.fdiv_eq_ediv_of_nonneg _ (by omega)]
    generalize ls.getD k 0 = x at *
    generalize rs.getD k 0 = y at *
    generalize carryAt ls rs b k = c at *
    by_cases h : x + y + c < b
    · left; exact Int.ediv_eq_zero_of_lt (by omega) h
    · right
      have e : x + y + c = (x + y + c - b) + b * 1 := by omega
      rw [e, Int.add_mul_ediv_left _ _ (by omega), Int.ediv_eq_zero_of_lt (by omega) (by omega)]; rfl
theorem carry_step (hb : 2 ≤ b) (hl : ∀ k, 0 ≤ ls.getD k 0 ∧ ls.getD k 0 < b) (hr : ∀ k, 0 ≤ rs.getD k 0 ∧ rs.getD k 0 < b) (k : Nat) :
    carryAt ls rs b (k + 1) = if b ≤ ls.getD k 0 + rs.getD k 0 + carryAt ls rs b k then 1 else 0 := by
  have h0 := carry_01 hb hl hr k
  simp only [carryAt]
  have h1 := hl k
  have h2 := hr k
  rw [Int.fdiv_eq_ediv_of_nonneg _ (by omega)]
  generalize ls.getD k 0 = x at *
  generalize rs.getD k 0 = y at *
  generalize carryAt ls rs b k = c at *
  split
  · have e : x + y + c = (x + y + c - b) + b * 1 := by omega
    rw [e, Int.add_mul_ediv_left _ _ (by omega), Int.ediv_eq_zero_of_lt (by omega) (by omega)]; rfl
  · exact Int.ediv_eq_zero_of_lt (by omega) (by omega)
theorem borrow_fdiv (hb : 2 ≤ b) (hl : ∀ k, 0 ≤ ls.getD k 0 ∧ ls.getD k 0 < b) (hr : ∀ k, 0 ≤ rs.getD k 0 ∧ rs.getD k 0 < b) (k : Nat) :
    - borrowAt ls rs (k + 1) = Int.fdiv (ls.getD k 0 - rs.getD k 0 + - borrowAt ls rs k) b := by
  have h0 := borrow_le (ls := ls) (rs := rs) (k := k)
  simp only [borrowAt]
  have h1 := hl k
  have h2 := hr k
  rw [Int.fdiv_eq_ediv_of_nonneg _ (by omega)]
  generalize ls.getD k 0 = x at *
  generalize rs.getD k 0 = y at *
  generalize borrowAt ls rs k = c at *
  split
  · have e : x - y + -c = (x - y + -c + b) + b * (-1) := by omega
    rw [e, Int.add_mul_ediv_left _ _ (by omega), Int.ediv_eq_zero_of_lt (by omega) (by omega)]; rfl
  · exact (Int.ediv_eq_zero_of_lt (by omega) (by omega)).symm
/-- F4, F5 for the sum -/
theorem sum_div (hb : 2 ≤ b) (c : Nat) (hc : c ≤ n) (e : c = n) : Int.fdiv (worthTo ls b n + worthTo rs b n) (b ^ c) = carryAt ls rs b c := by
  rw [← worth_add n n (by omega), up_div hb (carryAt ls rs b) rfl n (fun k hk => by rw [range_map_getD hk]; rfl) c hc]
  subst e
  simp [upTo]
theorem sum_mod (hb : 2 ≤ b) (c : Nat) (hc : c < n) : Int.fmod (Int.fdiv (worthTo ls b n + worthTo rs b n) (b ^ c)) b = totalAt ls rs b c := by
  rw [← worth_add n n (by omega), up_mod hb (carryAt ls rs b) rfl n (fun k hk => by rw [range_map_getD hk]; rfl) c hc, range_map_getD hc]
  rfl
theorem lack_div (hb : 2 ≤ b) (hl : ∀ k, 0 ≤ ls.getD k 0 ∧ ls.getD k 0 < b) (hr : ∀ k, 0 ≤ rs.getD k 0 ∧ rs.getD k 0 < b) (c : Nat) (hc : c ≤ n) (e : c = n) : Int.fdiv (worthTo ls b n - worthTo rs b n) (b ^ c) = - borrowAt ls rs c := by
  rw [← worth_sub n n (by omega), up_div hb (fun k => - borrowAt ls rs k) rfl n (fun k hk => by rw [range_map_getD hk]; exact borrow_fdiv hb hl hr k) c hc]
  subst e
  simp [upTo]
theorem lack_fig (hb : 2 ≤ b) (hl : ∀ k, 0 ≤ ls.getD k 0 ∧ ls.getD k 0 < b) (hr : ∀ k, 0 ≤ rs.getD k 0 ∧ rs.getD k 0 < b) (c : Nat) : Int.fmod (ls.getD c 0 - rs.getD c 0 + - borrowAt ls rs c) b = remnantAt ls rs b c := by
  have h := borrow_fdiv hb hl hr c
  rw [Int.fmod_def, ← h]
  unfold remnantAt
  rw [Int.mul_neg]
  omega
theorem lack_mod (hb : 2 ≤ b) (hl : ∀ k, 0 ≤ ls.getD k 0 ∧ ls.getD k 0 < b) (hr : ∀ k, 0 ≤ rs.getD k 0 ∧ rs.getD k 0 < b) (c : Nat) (hc : c < n) : Int.fmod (Int.fdiv (worthTo ls b n - worthTo rs b n) (b ^ c)) b = remnantAt ls rs b c := by
  rw [← worth_sub n n (by omega), up_mod hb (fun k => - borrowAt ls rs k) rfl n (fun k hk => by rw [range_map_getD hk]; exact borrow_fdiv hb hl hr k) c hc, range_map_getD hc]
  exact lack_fig hb hl hr c
end
end Mine
end -- M1

section -- M2
open PySem PySem.W PyProof.Rows
set_option maxRecDepth 100000
set_option maxHeartbeats 8000000
namespace Mine
section
variable {ls rs : List Int} {b : Int} {n : Nat}
/-- F3 -/
theorem top_same {d : List Int} {p q : Nat} (hpq : p ≤ q) (h : ∀ k, p ≤ k → k < q → d.getD k 0 = 0) : topAt d q = topAt d p := by
  induction q with
  | zero => have : p = 0 := by omega
            subst this; rfl
  | succ q ih =>
    by_cases e : p = q + 1
    · subst e; rfl
    · simp only [topAt]; rw [if_pos (h q (by omega) (by omega))]; exact ih (by omega) (fun k h1 h2 => h k h1 (by omega))
noncomputable def hitVal (d : List Int) : Option (Int × Int) → Int
  | none => 0
  | some (i, _) => d.getD i.toNat 0
theorem off_ge {d : List Int} {v : Int} (p : Nat) : p ≤ nextOff d v p := nextOff_le
theorem off_le {d : List Int} {v : Int} (p : Nat) (h : p ≤ d.length) : nextOff d v p ≤ d.length := nextOff_len h
theorem off_all {d : List Int} {v : Int} : ∀ (k p : Nat), d.length - p = k → (∀ k, p ≤ k → k < nextOff d v p → d.getD k 0 = v) ∧ (nextOff d v p < d.length → d.getD (nextOff d v p) 0 ≠ v) := by
  intro k
  induction k with
  | zero =>
    intro p h
    have e : nextOff d v p = p := nextOff_stop (by omega)
    rw [e]
    exact ⟨fun k a b => absurd b (by omega), fun h => absurd h (by omega)⟩
  | succ k ih =>
    intro p h
    by_cases e : d.getD p 0 = v
    · have e1 := nextOff_step (v := v) (by omega : p < d.length) e
      have r := ih (p + 1) (by omega)
      rw [e1] at r
      refine ⟨fun k' a b => ?_, r.2⟩
      by_cases e2 : k' = p
      · subst e2; exact e
      · exact r.1 k' (by omega) b
    · have e1 : nextOff d v p = p := nextOff_stop (fun x => e x.2)
      rw [e1]
      exact ⟨fun k a b => absurd b (by omega), fun _ => e⟩
theorem off_run {d : List Int} {v : Int} (p k : Nat) (h1 : p ≤ k) (h2 : k < nextOff d v p) : d.getD k 0 = v := (off_all _ p rfl).1 k h1 h2
theorem off_here {d : List Int} {v : Int} (p : Nat) (h : nextOff d v p < d.length) : d.getD (nextOff d v p) 0 ≠ v := (off_all _ p rfl).2 h
theorem rev_top {d : List Int} (c : Nat) (hc : c ≤ d.length) (f : Nat) : ∀ (p : Nat) (found : Option (Int × Int)), hitVal d found = topAt d p → p ≤ c → nextOff d 0 p < d.length → d.length + 1 ≤ f + p →
    hitVal d (revGo (unlikeFind d) (c : Int) f found ((nextOff d 0 p : Int), (nextOff d 0 p : Int))) = topAt d c := by
  induction f with
  | zero => intro p found h1 h2 h3 h4; omega
  | succ f ih =>
    intro p found h1 h2 h3 h4
    have g := off_ge (d := d) (v := 0) p
    have ht : topAt d (nextOff d 0 p) = topAt d p := top_same g (fun k a b => off_run p k a b)
    have ht' : topAt d (nextOff d 0 p + 1) = d.getD (nextOff d 0 p) 0 := by
      simp only [topAt]; rw [if_neg (off_here p h3)]
    simp only [revGo]
    split
    · rename_i hh
      rw [if_pos trivial]
      have e : ((nextOff d 0 p : Int) + 1).toNat = nextOff d 0 p + 1 := by omega
      rw [e]
      unfold unlikeFind
      split
      · rename_i hm
        split at hm
        · cases hm
        · rename_i hz
          simp only [hitVal, Int.toNat_natCast]
          rw [← ht']
          exact (top_same (by omega) (fun k a b' => off_run (nextOff d 0 p + 1) k a (by omega))).symm
      · rename_i cc hm
        split at hm
        · rename_i hz
          cases hm
          refine ih (nextOff d 0 p + 1) _ ?_ (by omega) hz (by omega)
          simp only [hitVal, Int.toNat_natCast]; exact ht'.symm
        · cases hm
    · rename_i hh
      rw [h1]
      exact (top_same h2 (fun k a b' => off_run p k a (by omega))).symm
theorem last_top {d : List Int} (c : Nat) (hc : c ≤ d.length) : hitVal d (revFind (unlikeFind d) (c : Int) d.length) = topAt d c := by
  unfold revFind
  split
  · rename_i hm
    unfold unlikeFind at hm
    split at hm
    · cases hm
    · exact (top_same (by omega) (fun k a b' => off_run 0 k a (by omega))).symm
  · rename_i cc hm
    unfold unlikeFind at hm
    split at hm
    · cases hm
      exact rev_top c hc _ 0 none rfl (by omega) (by assumption) (by omega)
    · cases hm
/-- the borrow, told by the last difference -/
theorem borrow_top (k : Nat) (hk : k ≤ n) : borrowAt ls rs k = if topAt ((List.range n).map (fun k => ls.getD k 0 - rs.getD k 0)) k < 0 then 1 else 0 := by
  induction k with
  | zero => rfl
  | succ k ih =>
    have h := ih (by omega)
    have hb := borrow_le (ls := ls) (rs := rs) (k := k)
    have et : topAt ((List.range n).map (fun k => ls.getD k 0 - rs.getD k 0)) (k + 1) = if ls.getD k 0 - rs.getD k 0 = 0 then topAt ((List.range n).map (fun k => ls.getD k 0 - rs.getD k 0)) k else ls.getD k 0 - rs.getD k 0 := by
      simp only [topAt]
      rw [range_map_getD (by omega)]
    rw [et]
    simp only [borrowAt]
    clear et
    generalize topAt _ k = t at *
    generalize borrowAt ls rs k = c at *
    generalize ls.getD k 0 - rs.getD k 0 = x at *
    by_cases hx : x = 0
    · rw [if_pos hx]; split at h <;> split <;> (try split) <;> omega
    · rw [if_neg hx]; split <;> split <;> omega
theorem top_neg (k : Nat) (hk : k ≤ n) : topAt ((List.range n).map (fun k => rs.getD k 0 - ls.getD k 0)) k = - topAt ((List.range n).map (fun k => ls.getD k 0 - rs.getD k 0)) k := by
  induction k with
  | zero => rfl
  | succ k ih =>
    have h := ih (by omega)
    simp only [topAt]
    rw [range_map_getD (by omega), range_map_getD (by omega)]
    split <;> split <;> omega
theorem fdiv_neg {x y : Int} (hy : 0 < y) : Int.fdiv x y < 0 ↔ x < 0 := by
  rw [Int.fdiv_eq_ediv_of_nonneg _ (by omega)]
  constructor
  · intro h
    exact Int.not_le.mp (fun h2 => absurd (Int.ediv_nonneg h2 (by omega : 0 ≤ y)) (by omega))
  · intro h; exact Int.ediv_neg_of_neg_of_pos h hy
/-- F6 -/
theorem lack_lt (hb : 2 ≤ b) (hl : ∀ k, 0 ≤ ls.getD k 0 ∧ ls.getD k 0 < b) (hr : ∀ k, 0 ≤ rs.getD k 0 ∧ rs.getD k 0 < b) : (worthTo ls b n < worthTo rs b n ↔ topAt ((List.range n).map (fun k => ls.getD k 0 - rs.getD k 0)) n < 0) := by
  have h := lack_div (n := n) hb hl hr n (by omega) rfl
  have h1 := fdiv_neg (x := worthTo ls b n - worthTo rs b n) (Int.pow_pos (n := b) (m := n) (by omega))
  rw [h, borrow_top (n := n) n (Nat.le_refl n)] at h1
  split at h1 <;> omega
theorem lack_gt (hb : 2 ≤ b) (hl : ∀ k, 0 ≤ ls.getD k 0 ∧ ls.getD k 0 < b) (hr : ∀ k, 0 ≤ rs.getD k 0 ∧ rs.getD k 0 < b) : (worthTo rs b n < worthTo ls b n ↔ 0 < topAt ((List.range n).map (fun k => ls.getD k 0 - rs.getD k 0)) n) := by
  have h := lack_lt (n := n) hb hr hl
  rw [top_neg (n := n) n (Nat.le_refl n)] at h
  omega
end
end Mine
end -- M2

section -- M3
open PySem PySem.W PyProof.Rows
set_option maxRecDepth 100000
set_option maxHeartbeats 8000000
namespace Mine
section
variable {ls rs : List Int} {b : Int} {n : Nat}
/-- F1: over a row that ends at col the match told ends there -/
theorem rev_end {d : List Int} {v : Int} (f : Nat) : ∀ (p : Nat) (found : Option (Int × Int)), nextOff d v p < d.length → d.length + 1 ≤ f + p →
    ∃ i : Nat, revGo (chainFind d v) (d.length : Int) f found ((nextOff d v p : Int), (nextOff d v (nextOff d v p + 1) : Int)) = some ((i : Int), (d.length : Int)) ∧ i < d.length ∧ d.getD i 0 ≠ v ∧ ∀ k, i < k → k < d.length → d.getD k 0 = v := by
  induction f with
  | zero => intro p found h1 h2; have := off_ge (d := d) (v := v) p; omega
  | succ f ih =>
    intro p found h1 h2
    have g := off_ge (d := d) (v := v) p
    have g2 := off_ge (d := d) (v := v) (nextOff d v p + 1)
    have g3 := off_le (d := d) (v := v) (nextOff d v p + 1) (by omega)
    simp only [revGo]
    rw [if_pos (by omega)]
    rw [if_neg (by omega)]
    rw [Int.toNat_natCast]
    unfold chainFind
    split
    · rename_i hm
      split at hm
      · cases hm
      · rename_i hz
        have e : nextOff d v (nextOff d v p + 1) = d.length := by
          by_cases e : nextOff d v (nextOff d v p + 1) < d.length
          · exfalso
            apply hz
            rw [nextOff_stop (fun x => off_here _ e x.2)]
            exact e
          · omega
        refine ⟨nextOff d v p, by rw [e], h1, off_here p h1, fun k a b' => off_run (nextOff d v p + 1) k a (by omega)⟩
    · rename_i cc hm
      split at hm
      · rename_i hz
        cases hm
        exact ih _ _ hz (by omega)
      · cases hm
theorem told_end {d : List Int} {v : Int} : (revFind (chainFind d v) (d.length : Int) d.length = none ∧ ∀ k, k < d.length → d.getD k 0 = v) ∨
    ∃ i : Nat, revFind (chainFind d v) (d.length : Int) d.length = some ((i : Int), (d.length : Int)) ∧ i < d.length ∧ d.getD i 0 ≠ v ∧ ∀ k, i < k → k < d.length → d.getD k 0 = v := by
  unfold revFind
  split
  · rename_i hm
    left
    unfold chainFind at hm
    split at hm
    · cases hm
    · exact ⟨rfl, fun k a => off_run 0 k (by omega) (by omega)⟩
  · rename_i cc hm
    right
    unfold chainFind at hm
    split at hm
    · cases hm
      exact rev_end _ 0 none (by assumption) (by omega)
    · cases hm
theorem carry_same (hb : 2 ≤ b) (hl : ∀ k, 0 ≤ ls.getD k 0 ∧ ls.getD k 0 < b) (hr : ∀ k, 0 ≤ rs.getD k 0 ∧ rs.getD k 0 < b) {p q : Nat} (hpq : p ≤ q) (h : ∀ k, p ≤ k → k < q → ls.getD k 0 + rs.getD k 0 = b - 1) : carryAt ls rs b q = carryAt ls rs b p := by
  induction q with
  | zero => have : p = 0 := by omega
            subst this; rfl
  | succ q ih =>
    by_cases e : p = q + 1
    · subst e; rfl
    · have h1 := ih (by omega) (fun k a b' => h k a (by omega))
      have h2 := h q (by omega) (by omega)
      have h3 := carry_01 hb hl hr q
      rw [carry_step hb hl hr, ← h1]
      split <;> omega
theorem take_getD {d : List Int} {c k : Nat} (h : k < c) : (d.take c).getD k 0 = d.getD k 0 := by
  simp [List.getD, List.getElem?_take, h]
theorem told_carry (hb : 2 ≤ b) (hl : ∀ k, 0 ≤ ls.getD k 0 ∧ ls.getD k 0 < b) (hr : ∀ k, 0 ≤ rs.getD k 0 ∧ rs.getD k 0 < b) (c : Nat) (hc : c ≤ n) {d : List Int} (hd : d = (List.range n).map (fun k => ls.getD k 0 + rs.getD k 0)) :
    (revFind (chainFind (d.take c) (b - 1)) (c : Int) c = none ∧ carryAt ls rs b c = 0) ∨
    ∃ i : Nat, revFind (chainFind (d.take c) (b - 1)) (c : Int) c = some ((i : Int), (c : Int)) ∧ i < n ∧ carryAt ls rs b c = if b ≤ d.getD i 0 then 1 else 0 := by
  have hlen : (d.take c).length = c := by rw [hd]; simp; omega
  have hg : ∀ k, k < c → (d.take c).getD k 0 = ls.getD k 0 + rs.getD k 0 := by
    intro k hk
    rw [take_getD hk, hd, range_map_getD (by omega)]
  have hg' : ∀ k, k < c → d.getD k 0 = ls.getD k 0 + rs.getD k 0 := by
    intro k hk
    rw [hd, range_map_getD (by omega)]
  have t := told_end (d := d.take c) (v := b - 1)
  rw [hlen] at t
  rcases t with ⟨t1, t2⟩ | ⟨i, t1, t2, t3, t4⟩
  · left
    refine ⟨t1, ?_⟩
    exact carry_same hb hl hr (p := 0) (by omega) (fun k _ hk => by rw [← hg k hk]; exact t2 k hk)
  · right
    refine ⟨i, t1, by omega, ?_⟩
    rw [hg i t2] at t3
    rw [carry_same hb hl hr (p := i + 1) (by omega) (fun k h1 hk => by rw [← hg k hk]; exact t4 k h1 hk), carry_step hb hl hr, hg' i t2]
    have := carry_01 hb hl hr i
    split <;> split <;> omega
end
end Mine
end -- M3

section -- M4
open PySem PySem.W PyProof.Rows
set_option maxRecDepth 100000
set_option maxHeartbeats 8000000
namespace Mine
section
variable {ls rs : List Int} {b : Int} {n : Nat}
/-- the stretches from i on, r places -/
noncomputable def stretchFrom (d : List Int) (v : Int) (i : Nat) : Nat → List (Int × Int)
  | 0 => []
  | r + 1 => if d.getD i 0 = v then stretchFrom d v (i + 1) r else ((i : Int), (nextOff d v (i + 1) : Int)) :: stretchFrom d v (i + 1) r
theorem strs_skip {d : List Int} {v : Int} (r : Nat) : ∀ i, i + r = d.length → stretchFrom d v i r = stretchFrom d v (nextOff d v i) (d.length - nextOff d v i) := by
  induction r with
  | zero =>
    intro i h
    rw [nextOff_stop (by omega)]
    have : d.length - i = 0 := by omega
    rw [this]
  | succ r ih =>
    intro i h
    by_cases e : d.getD i 0 = v
    · simp only [stretchFrom]; rw [if_pos e, ih (i + 1) (by omega), nextOff_step (by omega) e]
    · rw [nextOff_stop (fun x => e x.2)]
      have : d.length - i = r + 1 := by omega
      rw [this]
theorem strs_snd {d : List Int} {v : Int} (r : Nat) : ∀ i, i + r = d.length → ∀ x ∈ stretchFrom d v i r, (i : Int) < x.2 := by
  induction r with
  | zero => intro i h x hx; simp [stretchFrom] at hx
  | succ r ih =>
    intro i h x hx
    simp only [stretchFrom] at hx
    split at hx
    · have := ih (i + 1) (by omega) x hx; omega
    · rcases List.mem_cons.mp hx with rfl | hx
      · have := off_ge (d := d) (v := v) (i + 1); simp only; omega
      · have := ih (i + 1) (by omega) x hx; omega
noncomputable def lastOr (found : Option (Int × Int)) (xs : List (Int × Int)) : Option (Int × Int) := match xs.getLast? with | none => found | some x => some x
theorem lastOr_cons {found : Option (Int × Int)} {x : Int × Int} {xs : List (Int × Int)} : lastOr found (x :: xs) = lastOr (some x) xs := by
  unfold lastOr
  rw [List.getLast?_cons]
  cases xs.getLast? <;> rfl
theorem rev_strs {d : List Int} {v : Int} (c : Nat) (f : Nat) : ∀ (p : Nat) (found : Option (Int × Int)), nextOff d v p < d.length → d.length + 1 ≤ f + p →
    revGo (chainFind d v) (c : Int) f found ((nextOff d v p : Int), (nextOff d v (nextOff d v p + 1) : Int)) = lastOr found ((stretchFrom d v (nextOff d v p) (d.length - nextOff d v p)).filter (fun x => decide (x.2 ≤ (c : Int)))) := by
  induction f with
  | zero => intro p found h1 h2; have := off_ge (d := d) (v := v) p; omega
  | succ f ih =>
    intro p found h1 h2
    have g := off_ge (d := d) (v := v) p
    have g2 := off_ge (d := d) (v := v) (nextOff d v p + 1)
    have g3 := off_le (d := d) (v := v) (nextOff d v p + 1) (by omega)
    have e1 : d.length - nextOff d v p = (d.length - (nextOff d v p + 1)) + 1 := by omega
    rw [e1]
    simp only [stretchFrom]
    rw [if_neg (off_here p h1), strs_skip _ (nextOff d v p + 1) (by omega)]
    simp only [revGo]
    generalize hj : nextOff d v (nextOff d v p + 1) = j at *
    have hstop : nextOff d v j = j := by
      by_cases e : j < d.length
      · refine nextOff_stop (fun x => ?_)
        have := off_here (d := d) (v := v) (nextOff d v p + 1) (by omega)
        rw [hj] at this
        exact this x.2
      · exact nextOff_stop (by omega)
    split
    · rename_i hh
      rw [if_neg (by omega : ¬ ((nextOff d v p : Int) = (j : Int)))]
      rw [Int.toNat_natCast]
      rw [List.filter_cons, if_pos (by simp; omega), lastOr_cons]
      split
      · rename_i hm
        unfold chainFind at hm
        split at hm
        · cases hm
        · have : d.length - j = 0 := by omega
          rw [this]
          rfl
      · rename_i cc hm
        unfold chainFind at hm
        split at hm
        · rename_i hz
          cases hm
          have r := ih j (some ((nextOff d v p : Int), (j : Int))) hz (by omega)
          rw [hstop] at r ⊢
          exact r
        · cases hm
    · rename_i hh
      rw [List.filter_cons, if_neg (by simp; omega)]
      have e : (stretchFrom d v j (d.length - j)).filter (fun x => decide (x.2 ≤ (c : Int))) = [] := by
        rw [List.filter_eq_nil_iff]
        intro x hx
        have := strs_snd (d.length - j) j (by omega) x hx
        simp; omega
      rw [e]
      rfl
theorem near_strs {d : List Int} {v : Int} (c : Nat) : revFind (chainFind d v) (c : Int) d.length = ((stretchFrom d v 0 d.length).filter (fun x => decide (x.2 ≤ (c : Int)))).getLast? := by
  have e : ∀ xs : List (Int × Int), xs.getLast? = lastOr none xs := by
    intro xs; unfold lastOr; cases xs.getLast? <;> rfl
  rw [e, strs_skip _ 0 (by omega)]
  unfold revFind
  split
  · rename_i hm
    unfold chainFind at hm
    split at hm
    · cases hm
    · have : d.length - nextOff d v 0 = 0 := by omega
      rw [this]
      rfl
  · rename_i cc hm
    unfold chainFind at hm
    split at hm
    · cases hm
      exact rev_strs c _ 0 none (by assumption) (by omega)
    · cases hm
/-- the places that open a stretch, from i on -/
noncomputable def bgs (d : List Int) (v : Int) (i : Nat) : Nat → List Int
  | 0 => []
  | r + 1 => if d.getD i 0 = v then bgs d v (i + 1) r else (i : Int) :: bgs d v (i + 1) r
theorem bgs_head {d : List Int} {v : Int} (r : Nat) : ∀ i, i + r = d.length → (bgs d v i r ++ [(d.length : Int)]).head? = some (nextOff d v i : Int) := by
  induction r with
  | zero =>
    intro i h
    rw [nextOff_stop (by omega)]
    simp [bgs]; omega
  | succ r ih =>
    intro i h
    simp only [bgs]
    by_cases e : d.getD i 0 = v
    · rw [if_pos e, ih (i + 1) (by omega), nextOff_step (by omega) e]
    · rw [if_neg e, nextOff_stop (fun x => e x.2)]
      rfl
theorem bgs_strs {d : List Int} {v : Int} (r : Nat) : ∀ i, i + r = d.length → stretchFrom d v i r = (bgs d v i r).zip ((bgs d v i r).drop 1 ++ [(d.length : Int)]) := by
  induction r with
  | zero => intro i h; rfl
  | succ r ih =>
    intro i h
    simp only [stretchFrom, bgs]
    split
    · exact ih (i + 1) (by omega)
    · have hh := bgs_head (d := d) (v := v) r (i + 1) (by omega)
      rw [ih (i + 1) (by omega)]
      generalize bgs d v (i + 1) r = xs at *
      cases xs with
      | nil =>
        simp at hh
        simp [← hh]
      | cons x xs =>
        simp at hh
        simp [hh]
theorem bgs_filter {d : List Int} {v : Int} (r : Nat) : ∀ i, bgs d v i r = ((List.range' i r).filter (fun k => !decide (d.getD k 0 = v))).map (fun k : Nat => (k : Int)) := by
  induction r with
  | zero => intro i; rfl
  | succ r ih =>
    intro i
    simp only [bgs, List.range'_succ, List.filter_cons]
    split
    · rename_i e
      rw [ih, if_neg (by simp only [e]; simp)]
    · rename_i e
      rw [ih, if_pos (by simp only [e]; simp)]; rfl
theorem range_zip (xs ys : List Int) (h : xs.length = ys.length) : (List.range xs.length).map (fun t => (xs.getD t 0, ys.getD t 0)) = xs.zip ys := by
  apply List.ext_getElem
  · simp [h]
  · intro t h1 h2
    simp at h1 h2
    have h3 : t < ys.length := by omega
    simp [List.getD, h1, h3]
theorem opens_off (hb : 2 ≤ b) (hl : ∀ k, 0 ≤ ls.getD k 0 ∧ ls.getD k 0 < b) (hr : ∀ k, 0 ≤ rs.getD k 0 ∧ rs.getD k 0 < b) (k : Nat) : opens ls rs b k = !decide (ls.getD k 0 + rs.getD k 0 = b - 1) := by
  unfold opens
  have h1 := hl k
  have h2 := hr k
  have hx : 0 ≤ ls.getD k 0 + rs.getD k 0 ∧ ls.getD k 0 + rs.getD k 0 ≤ 2 * b - 2 := by omega
  generalize ls.getD k 0 + rs.getD k 0 = x at *
  clear h1 h2
  rw [Int.fdiv_eq_ediv_of_nonneg _ (by omega), Int.fdiv_eq_ediv_of_nonneg _ (by omega)]
  have lo : ∀ y, 0 ≤ y → y < b → y / b = 0 := fun y a c => Int.ediv_eq_zero_of_lt a c
  have hi : ∀ y, b ≤ y → y < 2 * b → y / b = 1 := by
    intro y a c
    have e : y = (y - b) + b * 1 := by omega
    rw [e, Int.add_mul_ediv_left _ _ (by omega), Int.ediv_eq_zero_of_lt (by omega) (by omega)]; rfl
  by_cases h : x = b - 1
  · rw [lo x (by omega) (by omega), hi (x + 1) (by omega) (by omega)]
    simp [h]
  · by_cases h' : x < b - 1
    · rw [lo x (by omega) (by omega), lo (x + 1) (by omega) (by omega)]
      simp [h]
    · rw [hi x (by omega) (by omega), hi (x + 1) (by omega) (by omega)]
      simp [h]
theorem stretches_strs (hb : 2 ≤ b) (hl : ∀ k, 0 ≤ ls.getD k 0 ∧ ls.getD k 0 < b) (hr : ∀ k, 0 ≤ rs.getD k 0 ∧ rs.getD k 0 < b) (hn : ls.length = n) {d : List Int} (hd : d = (List.range n).map (fun k => ls.getD k 0 + rs.getD k 0)) :
    stretchesOf ls rs b = stretchFrom d (b - 1) 0 d.length := by
  have hlen : d.length = n := by rw [hd]; simp
  have e : beginsTo ls rs b ls.length = bgs d (b - 1) 0 d.length := by
    rw [bgs_filter, hlen, hn, ← List.range_eq_range']
    unfold beginsTo
    congr 1
    apply List.filter_congr
    intro k hk
    rw [opens_off hb hl hr, hd, range_map_getD (List.mem_range.mp hk)]
  unfold stretchesOf stretchAt
  rw [bgs_strs _ 0 (by omega), e, hlen, hn]
  generalize bgs d (b - 1) 0 n = xs
  cases xs with
  | nil => rfl
  | cons x xs => rw [← range_zip _ _ (by simp)]
end
end Mine
end -- M4

section -- T0
open PySem PySem.W PyProof.Rows
set_option maxRecDepth 100000
set_option maxHeartbeats 8000000
namespace Mine
noncomputable def turnBody : List Stmt := match lawParts.2.1.getD 18 (.Pass ⟨0, 0, 0, 0⟩) with
  | .For _ _ b _ _ => b
  | _ => []
noncomputable def turnRest (k : Nat) : List Stmt := turnBody.drop k
section
variable {w : World} {p : Program} {loose : List Str} {mean : ExcName → Option Value} {mg mb : Str → Option Value}
    {dp un : Nat} {gd : Option (List Code)} {cn : Str} {cs : Scope} {a : Addr} {ccd : Value} {cl : List (Str × Addr)} {outer : List Env} {A₀ : Around} {base h₀ : Heap} {L : Addr} {m : Str → Option Value}
    {s : Shared} {news : List (Addr × Obj)} {Q E : Value → Shared → Prop} 
theorem chain_told {q row : Addr} {vs : List Value} {ns : List Int} {n : Nat} {col v : Int} {tc : Tok} {ps : Array Value}
    (B : Below A₀ base outer h₀) (F : Fr h₀ L s.heap m) (X : (hd.heap_39 w.params).In h₀) (N₀ : News h₀ L s.heap ((100, tabObj ps) :: news)) (hrow : (row, W.listOf vs.toArray n) ∈ news) (hq : ChainIn news q v) (T : Top p loose mean mg mb h₀) (hC : CodeHd base 104 100) (hn : ∀ p ∈ news, p.1 ≠ 100) (hk : cs.kind = .function)
    (hdp : dp + 25 < recursionLimit) (hun : un + 250 < cLine) (hT : HitTab news ps) (hi : IntsAre vs ns) (hlen : ns.length ≤ 9)
    (hcol : col ≤ (ns.length : Int))
    (h : ∀ v' tl ps' h' tk', Fr h₀ L h' m → News h₀ L h' ((100, tabObj ps') :: (tl ++ news)) → HitTab (tl ++ news) ps' → Found (tl ++ news) v' (revFind (chainFind ns v) col ns.length) → (∀ p ∈ tl, AllLt p.1 ((100, tabObj ps) :: news)) → Q v' { s with heap := h', toks := tk' }) :
    wpAny (model PR w) (ktrTop dp un gd cn cs L a ccd cl outer) (call (.ref 98) [.ref q, .ref row, .int col tc]) Q E s := by
  have hq' := hq
  obtain ⟨a1, a2, a3, _, _, _, _⟩ := hq'
  exact reverse_spec (vs := vs) (n := n) B F X N₀ ⟨hrow, hq⟩ (fun l l' hs x => ⟨hs _ x.1, x.2.mono hs⟩) T hC hn hk hdp hun hT (chain_finder hC hi hlen) chain_finds a1 a2 a3 hcol h
theorem unlike_told {q row : Addr} {vs : List Value} {ns : List Int} {n : Nat} {col : Int} {tc : Tok} {ps : Array Value}
    (B : Below A₀ base outer h₀) (F : Fr h₀ L s.heap m) (X : (hd.heap_39 w.params).In h₀) (N₀ : News h₀ L s.heap ((100, tabObj ps) :: news)) (hrow : (row, W.listOf vs.toArray n) ∈ news) (hq : UnlikeIn news q) (T : Top p loose mean mg mb h₀) (hC : CodeHd base 104 100) (hn : ∀ p ∈ news, p.1 ≠ 100) (hk : cs.kind = .function)
    (hdp : dp + 25 < recursionLimit) (hun : un + 250 < cLine) (hT : HitTab news ps) (hi : IntsAre vs ns) (hlen : ns.length ≤ 9)
    (hcol : col ≤ (ns.length : Int))
    (h : ∀ v' tl ps' h' tk', Fr h₀ L h' m → News h₀ L h' ((100, tabObj ps') :: (tl ++ news)) → HitTab (tl ++ news) ps' → Found (tl ++ news) v' (revFind (unlikeFind ns) col ns.length) → (∀ p ∈ tl, AllLt p.1 ((100, tabObj ps) :: news)) → Q v' { s with heap := h', toks := tk' }) :
    wpAny (model PR w) (ktrTop dp un gd cn cs L a ccd cl outer) (call (.ref 98) [.ref q, .ref row, .int col tc]) Q E s := by
  have hq' := hq
  obtain ⟨a1, a2, a3, _, _⟩ := hq'
  exact reverse_spec (vs := vs) (n := n) B F X N₀ ⟨hrow, hq⟩ (fun l l' hs x => ⟨hs _ x.1, x.2.mono hs⟩) T hC hn hk hdp hun hT (unlike_finder hC hi hlen) unlike_finds a1 a2 a3 hcol h
end
section
variable {M : Model} {A : Around} {env : Env}
theorem wp_execs_app {Γ : Ctx} {Q : Flow → Shared → Prop} {E : Value → Pos → Shared → Prop} (rest : List Stmt) : ∀ (l : List Stmt) (p : Pos) (s : Shared), Sem.wp M Γ (execs (l ++ rest) env) (fun a _ s' => Q a s') E p s =
    Sem.wp M Γ (execs l env) (fun f p' s' => match f with | .next => Sem.wp M Γ (execs rest env) (fun a _ s' => Q a s') E p' s' | f => Q f s') E p s
  | [], p, s => rfl
  | st :: l, p, s => by
    rw [List.cons_append, execs_cons, execs_cons, Sem.wp_bind', Sem.wp_bind']
    congr 1
    funext f p' s'
    cases f
    · exact wp_execs_app rest l p' s'
    all_goals rfl
theorem execs_app {l rest : List Stmt} {Q : Flow → Shared → Prop} {E : Value → Shared → Prop} {s : Shared}
    (h : wpAny M A (execs l env) (fun f s' => match f with | .next => wpAny M A (execs rest env) Q E s' | f => Q f s') E s) : wpAny M A (execs (l ++ rest) env) Q E s := fun Γ p hΓ => by
  rw [wp_execs_app]
  refine Sem.wp_mono M Γ _ (fun f p' s' h' => ?_) (fun _ _ _ h' => h') _ _ (h Γ p hΓ)
  cases f <;> first | exact h' Γ p' hΓ | exact h'
end
theorem Pairs.get {nw : List (Addr × Obj)} : ∀ {vs : List Value} {ps : List (Int × Int)} (_ : Pairs nw vs ps) (i : Nat), i < vs.length → ∃ r a b t u, vs[i]? = some (.ref r) ∧ ps[i]? = some (a, b) ∧ (r, pairObj a t b u) ∈ nw
  | _, _, .nil, i, h => absurd h (Nat.not_lt_zero _)
  | _, _, .cons h _, 0, _ => ⟨_, _, _, _, _, rfl, rfl, h⟩
  | _, _, .cons _ hr, i + 1, hi => hr.get i (Nat.lt_of_succ_lt_succ hi)
theorem Pairs.last {nw : List (Addr × Obj)} : ∀ {vs : List Value} {ps : List (Int × Int)} {a b : Int}, Pairs nw vs ps → ps.getLast? = some (a, b) → ∃ vi r t u, vs = vi ++ [.ref r] ∧ (r, pairObj a t b u) ∈ nw
  | _, _, a, b, .nil, e => by cases e
  | _, _, a, b, .cons (vs := vs) (ps := ps) h hr, e => by
    cases hr with
    | nil => cases e; exact ⟨[], _, _, _, rfl, h⟩
    | cons h' hr' =>
      rw [List.getLast?_cons_cons] at e
      obtain ⟨vi, r, t, u, e1, e2⟩ := (Pairs.cons h' hr').last e
      exact ⟨_ :: vi, r, t, u, by rw [e1]; rfl, e2⟩
theorem Pairs.empty {nw : List (Addr × Obj)} {vs : List Value} {ps : List (Int × Int)} (h : Pairs nw vs ps) (e : ps.getLast? = none) : vs = [] := by
  rw [List.getLast?_eq_none_iff] at e
  subst e
  cases h; rfl
theorem filter_yes {α : Type} {p : α → Bool} {l : List α} {i : Nat} {x : α} (h : l[i]? = some x) (hp : p x = true) : (l.take (i + 1)).filter p = (l.take i).filter p ++ [x] := by
  rw [List.take_add_one, h, Option.toList_some, List.filter_append, List.filter_cons_of_pos hp, List.filter_nil]
theorem filter_no {α : Type} {p : α → Bool} {l : List α} {i : Nat} {x : α} (h : l[i]? = some x) (hp : p x = false) : (l.take (i + 1)).filter p = (l.take i).filter p := by
  rw [List.take_add_one, h, Option.toList_some, List.filter_append, List.filter_cons_of_neg (by simp [hp]), List.filter_nil, List.append_nil]
section
variable {prog : Program} {w : World} {A : Around} {s : Shared} {h₀ : Heap} {L : Addr} {m : Str → Option Value} {env : Env} {ct elt : Expr} {x : Str} {scope : Scope} {cl : List (Str × Addr)} {S : List (Addr × Obj) → Prop} {P : Nat → Value → Prop} {Fin : List Value → List (Addr × Obj) → Prop}
theorem compEnd_more {h₀ : Heap} {L I C D : Addr} {m : Str → Option Value} {s₁ : Shared} {oI oC oD : Obj} {rest rest' : Value → List (Addr × Obj) → Prop} {y : Value} {s₂ : Shared} (hr : ∀ nw, rest y nw → rest' y nw)
    (h : LCg.CompEnd h₀ L m s₁ I oI C oC D oD S rest y s₂) : LCg.CompEnd h₀ L m s₁ I oI C oC D oD S rest' y s₂ := by
  obtain ⟨h', tk', news', e', F', N', o', hS', r'⟩ := h
  exact ⟨h', tk', news', e', F', N', o', hS', hr _ r'⟩
/-- a comprehension with a test, by what holds of its turns -/
theorem compRestT_inv {n : Nat} (Inv : Nat → List Value → List (Addr × Obj) → Prop)
    (step : ∀ i ys news, i < n → Inv i ys news → ∀ v I oI C oC D m₂ h tk (E' : Value → Shared → Prop), P i v → LCg.NsObj oC m₂ → m₂ x = some v → Fr h₀ L h m → News h₀ L h ((I, oI) :: (C, oC) :: (D, LCg.lst ys) :: news) → LCg.Off3 I C D news → ((@Ne Nat I C) ∧ (@Ne Nat I D) ∧ (@Ne Nat C D)) →
      wpAny (model prog w) A (isTrue ct (compEnvC scope cl C env) (eval ct (compEnvC scope cl C env))) (fun ok s' => if ok = true then
        wpAny (model prog w) A (eval elt (compEnvC scope cl C env)) (LCg.CompEnd h₀ L m { s with heap := h, toks := tk } I oI C oC D (LCg.lst ys) S (fun y news' => Inv (i + 1) (ys ++ [y]) news')) E' s'
        else LCg.CompEnd h₀ L m { s with heap := h, toks := tk } I oI C oC D (LCg.lst ys) S (fun _ news' => Inv (i + 1) ys news') Value.none s') E' { s with heap := h, toks := tk })
    (fin : ∀ ys news, Inv n ys news → Fin ys news) : ∀ k i ys news, i + k = n → Inv i ys news → LCt.CompRestT prog w A h₀ L m env ct elt x scope cl s S P Fin k i ys news
  | 0, i, ys, news, e, hi => by
    obtain rfl : i = n := by omega
    exact fin _ _ hi
  | k + 1, i, ys, news, e, hi => by
    intro v I oI C oC D m₂ h tk E' h1 h2 h3 h4 h5 h6 h7
    refine wpAny_mono (step i ys news (by omega) hi v I oI C oC D m₂ h tk E' h1 h2 h3 h4 h5 h6 h7) (fun ok s₂ q => ?_) fun _ _ x => x
    cases ok with
    | true =>
      simp only [if_true] at q ⊢
      exact wpAny_mono q (fun y s₃ q' => compEnd_more (fun nw r => compRestT_inv Inv step fin k (i + 1) _ _ (by omega) r) q') fun _ _ x => x
    | false =>
      simp only [Bool.false_eq_true, if_false] at q ⊢
      exact compEnd_more (fun nw r => compRestT_inv Inv step fin k (i + 1) _ _ (by omega) r) q
end
theorem not_list {p : Addr × Obj} {l : List (Addr × Obj)} (h : p ∈ l ∨ ∃ vs k, p.2 = W.listOf vs k) (hd : ∀ vs k, p.2.data ≠ .seq vs k) : p ∈ l := h.elim id fun ⟨vs, k, e⟩ => absurd (congrArg Obj.data e) (hd vs k)
theorem HitIn.only {n n' : List (Addr × Obj)} {q : Addr} {i j : Int} (hs : ∀ p ∈ n, p ∈ n' ∨ ∃ vs k, p.2 = W.listOf vs k) : HitIn n q i j → HitIn n' q i j
  | .mk h1 h2 h3 h4 h5 h6 h7 h8 h9 => by
    refine .mk (not_list (hs _ h1) fun _ _ e => nomatch e) (not_list (hs _ h2) fun _ _ e => ?_) h3 (not_list (hs _ h4) fun _ _ e => ?_) h5 (not_list (hs _ h6) fun _ _ e => ?_) h7 (not_list (hs _ h8) fun _ _ e => ?_) h9
    · obtain ⟨_, _, e2, _⟩ := h3
      rw [e2] at e; cases e
    · rw [h5] at e; cases e
    · rw [h7] at e; cases e
    · obtain ⟨_, _, e2, _⟩ := h9.out
      rw [e2] at e; cases e
theorem mid_list {tl news : List (Addr × Obj)} {l : Addr} {vs : Array Value} {k : Nat} : ∀ p ∈ tl ++ (l, W.listOf vs k) :: news, p ∈ tl ++ news ∨ ∃ vs k, p.2 = W.listOf vs k := fun p hp => by
  rcases List.mem_append.mp hp with hp | hp
  · exact .inl (List.mem_append_left _ hp)
  · rcases List.mem_cons.mp hp with rfl | hp
    · exact .inr ⟨_, _, rfl⟩
    · exact .inl (List.mem_append_right _ hp)
theorem Off.trans {xs ys : List Str} {m f g : Str → Option Value} (h : Off xs m f) (h' : Off ys f g) (hs : ∀ z, xs.contains z = false → ys.contains z = false) : Off xs m g := fun z hz => (h' z (hs z hz)).trans (h z hz)
noncomputable def turnSeg (i k : Nat) : List Stmt := (turnBody.drop i).take k
end Mine
end -- T0

section -- T1
open PySem PySem.W PyProof.Rows
set_option maxRecDepth 100000
set_option maxHeartbeats 1200000
namespace Mine
section
variable {w : World} {p : Program} {loose : List Str} {mean : ExcName → Option Value} {mg mb : Str → Option Value} {h₀ : Heap} {L fa : Addr} {cd : Value} {s : Shared} {Q : Flow → Shared → Prop} {E : Value → Shared → Prop} {m : Str → Option Value} {news : List (Addr × Obj)} {ps : Array Value}
theorem turn1 {lSu qC : Addr} {vSu : List Value} {kSu c n : Nat} {ls rs su : List Int} {b : Int} {tb tc : Tok} {oB oC : Obj}
    (B : Below callerA h₀ [] h₀) (F : Fr h₀ L s.heap m) (X : (hd.heap_39 w.params).In h₀) (N : News h₀ L s.heap ((100, tabObj ps) :: news)) (T : Top p loose mean mg mb h₀) (hC : CodeHd h₀ 104 100)
    (hn : ∀ p ∈ news, p.1 ≠ 100) (hT : HitTab news ps) (hq : ChainIn news qC (b - 1))
    (hS : (lSu, W.listOf vSu.toArray kSu) ∈ news) (hc : (L + 1 + 1 + 1 + 1, oC) ∈ news) (dC : oC.data = .cell (some (.int (c : Int) tc))) (hB : (L + 1, oB) ∈ news) (dB : oB.data = .cell (some (.int b tb)))
    (mC : m (Str.ofString "chains") = some (.ref qC)) (mS : m (Str.ofString "sums") = some (.ref lSu))
    (iSu : IntsAre vSu su) (hsu : su = (List.range n).map (fun k => ls.getD k 0 + rs.getD k 0)) (hcn : c ≤ n) (hn9 : n ≤ 9)
    (hb : 2 ≤ b) (hb' : b ≤ 10) (hl : ∀ k, 0 ≤ ls.getD k 0 ∧ ls.getD k 0 < b) (hr : ∀ k, 0 ≤ rs.getD k 0 ∧ rs.getD k 0 < b)
    (h : ∀ tl ps' h' tk' m', Fr h₀ L h' m' → News h₀ L h' ((100, tabObj ps') :: (tl ++ news)) → HitTab (tl ++ news) ps' → (∀ p ∈ tl, AllLt p.1 ((100, tabObj ps) :: news)) → Off [Str.ofString "told", Str.ofString "carry"] m m' → (∃ t, m' (Str.ofString "carry") = some (.int (carryAt ls rs b c) t)) →
      Q .next { s with heap := h', toks := tk' }) :
    wpAny (model PR w) (callerA.deeper (envOfC (Str.ofString "law") lawParts.2.2 L fa cd)) (execs (turnSeg 0 3) (envOfC (Str.ofString "law") lawParts.2.2 L fa cd)) Q E s := by
  k_with_none
  w_top off
  k_with "call ref cons nil" => first | (k_here; (with_reducible show wpAny _ _ (call (Value.ref _) [_, _]) _ _ _); k_dflt ((first | refine' getitem_op ?zqB ?zqF ?zqX ?zqN ?zqT ?zqk ?zqd ?zqu ?zqm ?zqi ?zqg ?zql ?zqn ?_ | refine' floordiv_op ?zqB ?zqF ?zqX ?zqN ?zqT ?zqk ?zqd ?zqu ?zqy ?zqp ?_ | refine' mod_op ?zqB ?zqF ?zqX ?zqN ?zqT ?zqk ?zqd ?zqu ?zqy ?_ | refine' add_op ?zqB ?zqF ?zqX ?zqN ?zqT ?zqk ?zqd ?zqu ?_ | refine' sub_op ?zqB ?zqF ?zqX ?zqN ?zqT ?zqk ?zqd ?zqu ?_ | refine' lt_op ?zqB ?zqF ?zqX ?zqN ?zqT ?zqk ?zqd ?zqu ?_ | refine' le_op ?zqB ?zqF ?zqX ?zqN ?zqT ?zqk ?zqd ?zqu ?_ | refine' eq_op ?zqB ?zqF ?zqX ?zqN ?zqT ?zqk ?zqd ?zqu ?_ | refine' ne_op ?zqB ?zqF ?zqX ?zqN ?zqT ?zqk ?zqd ?zqu ?_ | refine' ge_op ?zqB ?zqF ?zqX ?zqN ?zqT ?zqk ?zqd ?zqu ?_ | refine' gt_op ?zqB ?zqF ?zqX ?zqN ?zqT ?zqk ?zqd ?zqu ?_); (case zqB => k_asm); (case zqF => k_asm); (case zqX => k_asm); (case zqN => k_asm); (case zqT => k_asm); (case zqk => exact rfl); (case zqd => first | decide | omega); (case zqu => first | decide | omega); (try (case zqy => first | assumption | omega)); (try (case zqp => assumption)); (try (case zqm => k_mem)); (try (case zqi => assumption)); (try (case zqg => omega)); (try (case zql => omega)); (try (case zqn => omega)); k_whole); intros; (try dsimp only)) | refine Stop.out ?_
  k_with "call ref nil nil" => refine Stop.out ?_
  k_with "getMethod ref" => (k_dflt (refine' fn_method ?zql ?zqf ?zqd ?zqn ?zqv ?zqh ?_; (case zql => first | exact fn_no_span | exact fn_no_search); (case zqf => exact News.get (by k_asm) (by k_mem)); (case zqd => exact News.get (by k_asm) (by k_mem)); (case zqn => assumption); (case zqv => exact if_pos rfl); (case zqh => exact rfl); k_whole))
  k_with "truthy ref" => (k_dflt (refine' fn_truthy ?zqf ?_; (case zqf => exact News.get (by k_asm) (by k_mem)); k_whole))
  revert X; unfold PR at *; k_fill; intro X
  unfold turnSeg at *
  conv =>
    pattern (occs := *) turnBody
    all_goals whnf
  conv =>
    pattern (occs := *) lawParts
    all_goals whnf
  dsimp only [List.drop, List.take]
  have F1 := fr_as F [(Str.ofString "chains", .ref qC), (Str.ofString "sums", .ref lSu)] (fr_c mC (fr_c mS fr_n))
  dsimp only [kstB] at F1
  have zsu : su.length = n := by rw [hsu]; simp
  have zSu : vSu.length = n := by rw [iSu.length, zsu]
  have N1 : News h₀ L s.heap ((lSu, W.listOf vSu.toArray kSu) :: (L + 1 + 1 + 1 + 1, oC) :: (L + 1, oB) :: (100, tabObj ps) :: news) := kst_newsOf N (by repeat (first | exact sub_id | exact sub_n | refine sub_c (by repeat (first | exact .head _ | assumption | exact List.mem_append_left _ (by assumption) | refine .tail _ ?_ | refine List.mem_append_right _ ?_)) ?_ | refine sub_t ?_ | exact sub_l sub_id | exact sub_r sub_id | refine sub_o ?_ ?_ | refine sub_r ?_))
  clear F N
  try k_fold
  k_steps
  rename_i D ws g1 F2 N2 iW zW1 zW2 l1
  refine Stop.of ?_
  have ec : ((c : Int)).toNat = c := by omega
  rw [ec] at iW zW1
  have zT : (su.take c).length = c := by omega
  refine chain_told (ns := su.take c) (n := 0) (vs := ws) (v := b - 1) (news := (D, W.listOf ws.toArray 0) :: news) B F2 X (kst_newsOf N2 (by repeat (first | exact sub_id | exact sub_n | refine sub_c (by repeat (first | exact .head _ | assumption | exact List.mem_append_left _ (by assumption) | refine .tail _ ?_ | refine List.mem_append_right _ ?_)) ?_ | refine sub_t ?_ | exact sub_l sub_id | exact sub_r sub_id | refine sub_o ?_ ?_ | refine sub_r ?_))) (List.Mem.head _) (hq.mono fun _ hp => List.Mem.tail _ hp) T hC ?_ rfl (by decide) (by decide) (hT.mono fun _ hp => List.Mem.tail _ hp) iW (by omega) (by omega) (fun v tl1 ps1 g2 tk2 F3 N3 hT1 hF1 hlt1 => ?_)
  · intro p hp
    rcases List.mem_cons.mp hp with rfl | hp
    · have := l1.2.2.2.1; show @Ne Nat _ _; omega
    · exact hn p hp
  have hlt1' : ∀ p ∈ tl1, AllLt p.1 ((100, tabObj ps) :: news) := fun p hp => ⟨(hlt1 p hp).1, (hlt1 p hp).2.2⟩
  replace hT1 : HitTab (tl1 ++ news) ps1 := hT1.only (by intro p hp; rcases List.mem_append.mp hp with hp | hp; exact .inl (List.mem_append_left _ hp); rcases List.mem_cons.mp hp with rfl | hp; exact .inr noCode_list; exact .inl (List.mem_append_right _ hp))
  rw [zT] at hF1
  have hcar := told_carry (n := n) hb hl hr c hcn hsu
  generalize revFind (chainFind (su.take c) (b - 1)) (c : Int) c = r1 at hF1 hcar
  cases hF1
  · replace hcar : carryAt ls rs b c = 0 := by
      rcases hcar with h1 | ⟨i, h1, _⟩
      · exact h1.2
      · cases h1
    k_steps
    rename_i F4 N4
    refine h tl1 ps1 _ _ _ F4 (kst_newsOf N4 ?_) hT1 hlt1' ?_ ?_
    · repeat (first | exact sub_id | exact sub_n | refine sub_c (by repeat (first | exact .head _ | assumption | exact List.mem_append_left _ (by assumption) | refine .tail _ ?_ | refine List.mem_append_right _ ?_)) ?_ | refine sub_t ?_ | exact sub_l sub_id | exact sub_r sub_id | refine sub_o ?_ ?_ | refine sub_r ?_)
    · repeat (first | exact off_refl | refine off_if rfl ?_ | refine off_same (by assumption) ?_)
    · rw [hcar]; exact ⟨_, rfl⟩
  · rename_i q1 i1 j1 hH1
    replace hcar : ∃ i : Nat, (i1 = (i : Int) ∧ j1 = (c : Int)) ∧ i < n ∧ carryAt ls rs b c = if b ≤ su.getD i 0 then 1 else 0 := by
      rcases hcar with h1 | ⟨i, h1, h2⟩
      · cases h1.1
      · cases h1; exact ⟨i, ⟨rfl, rfl⟩, h2⟩
    obtain ⟨i, ⟨rfl, rfl⟩, hin, hcar⟩ := hcar
    obtain ⟨hq1, hq2, hq3, hq4, hq5, hq6, hq7, hq8, hq9⟩ := id hH1
    replace N3 := kst_newsOf N3 (sub_c (.tail _ hq1) (sub_c (.tail _ hq2) sub_id))
    clear F2 N2
    k_steps
    rename_i F4 N4
    refine Stop.of ?_
    refine span_spec B F4 X (kst_newsOf N4 (sub_t (sub_t sub_id))) T rfl (by decide) (by decide) (hH1.mono (sub_t sub_id)) (fun D2 t2 u2 h2 tk3 F5 N5 hl2 => ?_)
    replace N5 := kst_newsOf N5 (sub_c (a := (L + 1 + 1 + 1 + 1, oC)) (by repeat (first | exact .head _ | assumption | exact List.mem_append_left _ (by assumption) | refine .tail _ ?_ | refine List.mem_append_right _ ?_)) (sub_c (a := (L + 1, oB)) (by repeat (first | exact .head _ | assumption | exact List.mem_append_left _ (by assumption) | refine .tail _ ?_ | refine List.mem_append_right _ ?_)) (sub_c (a := (lSu, W.listOf vSu.toArray kSu)) (by repeat (first | exact .head _ | assumption | exact List.mem_append_left _ (by assumption) | refine .tail _ ?_ | refine List.mem_append_right _ ?_)) (sub_c (.tail _ (.tail _ hq1)) (sub_c (.tail _ (.tail _ hq2)) sub_id)))))
    clear F4 N4
    k_steps
    · exact absurd rfl (by assumption)
    refine Stop.of ?_
    refine span_spec B F5 X N5 T rfl (by decide) (by decide) (hH1.mono (sub_t (sub_t (sub_t (sub_t (sub_t (sub_t (sub_t sub_id)))))))) (fun D3 t3 u3 h3 tk4 F7 N7 hl3 => ?_)
    k_steps
    · rename_i hle h8 F8 N8
      rw [Int.toNat_natCast] at hle
      refine h tl1 ps1 _ _ _ F8 (kst_newsOf N8 ?_) hT1 hlt1' ?_ ?_
      · repeat (first | exact sub_id | exact sub_n | refine sub_c (by repeat (first | exact .head _ | assumption | exact List.mem_append_left _ (by assumption) | refine .tail _ ?_ | refine List.mem_append_right _ ?_)) ?_ | refine sub_t ?_ | exact sub_l sub_id | exact sub_r sub_id | refine sub_o ?_ ?_ | refine sub_r ?_)
      · repeat (first | exact off_refl | refine off_if rfl ?_ | refine off_same (by assumption) ?_)
      · rw [hcar, if_pos hle]; exact ⟨_, rfl⟩
    · rename_i hle h8 F8 N8
      rw [Int.toNat_natCast] at hle
      refine h tl1 ps1 _ _ _ F8 (kst_newsOf N8 ?_) hT1 hlt1' ?_ ?_
      · repeat (first | exact sub_id | exact sub_n | refine sub_c (by repeat (first | exact .head _ | assumption | exact List.mem_append_left _ (by assumption) | refine .tail _ ?_ | refine List.mem_append_right _ ?_)) ?_ | refine sub_t ?_ | exact sub_l sub_id | exact sub_r sub_id | refine sub_o ?_ ?_ | refine sub_r ?_)
      · repeat (first | exact off_refl | refine off_if rfl ?_ | refine off_same (by assumption) ?_)
      · rw [hcar, if_neg hle]; exact ⟨_, rfl⟩
end
end Mine
end -- T1

section -- T2
open PySem PySem.W PyProof.Rows
set_option maxRecDepth 100000
set_option maxHeartbeats 1200000
namespace Mine
section
variable {w : World} {p : Program} {loose : List Str} {mean : ExcName → Option Value} {mg mb : Str → Option Value} {h₀ : Heap} {L fa : Addr} {cd : Value} {s : Shared} {Q : Flow → Shared → Prop} {E : Value → Shared → Prop} {m : Str → Option Value} {news : List (Addr × Obj)} {ps : Array Value}
theorem pick_last {vi : List Value} {v : Value} : kms_pick (vi ++ [v]) (some (-1)) none = [v] := by
  simp [kms_pick, kms_lo, kms_hi]
local macro_rules | `(tactic| walk_at "subscriptTail Name Slice ref ref") => `(tactic| refine Stop.out ?_)
theorem turn2 {lSu lSt qC : Addr} {vSu vSt : List Value} {kSu kSt c : Nat} {su : List Int} {sx : List (Int × Int)} {v : Int} {tc : Tok} {oC : Obj}
    (B : Below callerA h₀ [] h₀) (F : Fr h₀ L s.heap m) (X : (hd.heap_39 w.params).In h₀) (N : News h₀ L s.heap ((100, tabObj ps) :: news)) (T : Top p loose mean mg mb h₀) (hC : CodeHd h₀ 104 100)
    (hn : ∀ p ∈ news, p.1 ≠ 100) (hT : HitTab news ps) (hq : ChainIn news qC v)
    (hS : (lSu, W.listOf vSu.toArray kSu) ∈ news) (hS2 : (lSt, W.listOf vSt.toArray kSt) ∈ news) (hc : (L + 1 + 1 + 1 + 1, oC) ∈ news) (dC : oC.data = .cell (some (.int (c : Int) tc)))
    (mC : m (Str.ofString "chains") = some (.ref qC)) (mS : m (Str.ofString "sums") = some (.ref lSu)) (mT : m (Str.ofString "stretches") = some (.ref lSt))
    (iSu : IntsAre vSu su) (hcn : c ≤ su.length) (hn9 : su.length ≤ 9) (hP : Pairs news vSt sx) (hs9 : sx.length ≤ 9)
    (hnear : revFind (chainFind su v) (c : Int) su.length = (sx.filter (fun x => decide (x.2 ≤ (c : Int)))).getLast?)
    (h : ∀ tl ps' h' tk' m', Fr h₀ L h' m' → News h₀ L h' ((100, tabObj ps') :: (tl ++ news)) → HitTab (tl ++ news) ps' → (∀ p ∈ tl, AllLt p.1 ((100, tabObj ps) :: news)) → Off [Str.ofString "near", Str.ofString "ended", Str.ofString "found"] m m' →
      Q .next { s with heap := h', toks := tk' }) :
    wpAny (model PR w) (callerA.deeper (envOfC (Str.ofString "law") lawParts.2.2 L fa cd)) (execs (turnSeg 3 4) (envOfC (Str.ofString "law") lawParts.2.2 L fa cd)) Q E s := by
  k_with_none
  w_top off
  k_with "call ref cons nil" => refine Stop.out ?_
  k_with "call ref nil nil" => refine Stop.out ?_
  k_with "getMethod ref" => (k_dflt (refine' fn_method ?zql ?zqf ?zqd ?zqn ?zqv ?zqh ?_; (case zql => first | exact fn_no_span | exact fn_no_search); (case zqf => exact News.get (by k_asm) (by k_mem)); (case zqd => exact News.get (by k_asm) (by k_mem)); (case zqn => assumption); (case zqv => exact if_pos rfl); (case zqh => exact rfl); k_whole))
  k_with "truthy ref" => (k_dflt (refine' fn_truthy ?zqf ?_; (case zqf => exact News.get (by k_asm) (by k_mem)); k_whole))
  k_with "CompSrcT" => refine Stop.out ?_
  revert X; unfold PR at *; k_fill; intro X
  unfold turnSeg at *
  conv =>
    pattern (occs := *) turnBody
    all_goals whnf
  conv =>
    pattern (occs := *) lawParts
    all_goals whnf
  dsimp only [List.drop, List.take]
  have F1 := fr_as F [(Str.ofString "chains", .ref qC), (Str.ofString "sums", .ref lSu), (Str.ofString "stretches", .ref lSt)] (fr_c mC (fr_c mS (fr_c mT fr_n)))
  dsimp only [kstB] at F1
  have zSu : vSu.length = su.length := iSu.length
  have zSt : vSt.length = sx.length := hP.length
  have N1 : News h₀ L s.heap ((lSt, W.listOf vSt.toArray kSt) :: (lSu, W.listOf vSu.toArray kSu) :: (L + 1 + 1 + 1 + 1, oC) :: (100, tabObj ps) :: news) := kst_newsOf N (sub_c (.tail _ hS2) (sub_c (.tail _ hS) (sub_c (.tail _ hc) sub_id)))
  clear F N
  try k_fold
  k_steps
  refine Stop.of ?_
  refine chain_told (ns := su) (n := kSu) (vs := vSu) (v := v) B F1 X (kst_newsOf N1 (sub_t (sub_t (sub_t sub_id)))) hS hq T hC hn rfl (by decide) (by decide) hT iSu (by omega) (by omega) (fun v1 tl1 ps1 g2 tk2 F3 N3 hT1 hF1 hlt1 => ?_)
  replace N3 := kst_newsOf N3 (sub_c (a := (lSt, W.listOf vSt.toArray kSt)) (by repeat (first | exact .head _ | assumption | exact List.mem_append_left _ (by assumption) | refine .tail _ ?_ | refine List.mem_append_right _ ?_)) (sub_c (a := (L + 1 + 1 + 1 + 1, oC)) (by repeat (first | exact .head _ | assumption | exact List.mem_append_left _ (by assumption) | refine .tail _ ?_ | refine List.mem_append_right _ ?_)) sub_id))
  clear F1 N1
  k_steps
  rename_i h3 F4 N4
  refine Stop.of ?_
  refine LCt.CompSrcT.ledger (by rfl) F4 N4 (.head _) (by rw [List.size_toArray, sizeLine_eq]; omega) ?_
  intro g1
  obtain ⟨WW, hW⟩ : ∃ WW : List (Addr × Obj), WW = (lSt, W.listOf vSt.toArray kSt) :: (L + 1 + 1 + 1 + 1, oC) :: (100, tabObj ps1) :: (tl1 ++ news) := ⟨_, rfl⟩
  rw [← hW]
  have hPW : Pairs WW vSt sx := hP.mono (by rw [hW]; exact sub_t (sub_t (sub_t (sub_r sub_id))))
  refine compRestT_inv (n := vSt.toArray.size) (fun i ys nw => nw = WW ∧ Pairs WW ys ((sx.take i).filter (fun x => decide (x.2 ≤ (c : Int))))) ?_ ?_ _ 0 [] _ (Nat.zero_add _) ⟨rfl, .nil⟩
  · rintro i ys nw hi ⟨rfl, hP2⟩ v2 I oI C oC' D m₂ h5 tk5 E5 hv hNs hx F5 N5 off5 ne5
    clear F4 N4
    rw [List.size_toArray] at hi
    obtain ⟨r, x, y, t, u, e1, e2, e3⟩ := hPW.get i hi
    rw [List.getElem?_toArray] at hv
    obtain rfl : v2 = .ref r := by rw [e1] at hv; cases hv; rfl
    replace N5 := kst_newsOf N5 (sub_c (a := (r, pairObj x t y u)) (.tail _ (.tail _ (.tail _ e3))) (sub_c (a := (L + 1 + 1 + 1 + 1, oC)) (by rw [hW]; simp) sub_id))
    k_steps
    · rename_i hle
      refine LCg.CompEnd.intro F5 N5 nw (sub_t (sub_t sub_id)) off5 (.inr ⟨_, by rw [hW]; exact .head _, rfl, _, rfl⟩) ⟨rfl, ?_⟩
      rw [filter_yes e2 (by simpa using hle)]
      exact hP2.snoc e3
    · rename_i hle
      refine LCg.CompEnd.intro F5 N5 nw (sub_t (sub_t sub_id)) off5 (.inr ⟨_, by rw [hW]; exact .head _, rfl, _, rfl⟩) ⟨rfl, ?_⟩
      rw [filter_no e2 (by simpa using hle)]
      exact hP2
  · rintro ys nw ⟨rfl, hP2⟩ D g8 tk8 F8 N8 of8
    clear F4 N4
    rw [List.size_toArray, List.take_of_length_le (by omega)] at hP2
    rw [hnear] at hF1
    generalize hg : (sx.filter (fun x => decide (x.2 ≤ (c : Int)))).getLast? = r1 at hF1
    cases hF1
    · obtain rfl : ys = [] := hP2.empty hg
      rw [hW] at N8
      k_steps
      rename_i F7 N7
      refine Stop.of ?_
      k_dflt (refine' kms_slice_lit (zs := []) F7 N7 ?kl ?kp ?kq ?ke ?_ ?ks ?kt ?kz; (case kl => kmk_list); (case kp => kmk_part); (case kq => kmk_part); (case ke => exact rfl); (case ks => with_unfolding_all rfl); (case kt => kmk_pure); (case kz => exact Nat.zero_le _))
      intro D9 h9 F9 N9 l9
      clear F7 N7
      (try k_lt l9)
      k_steps
      rename_i F9 N9 _
      refine h tl1 ps1 _ _ _ F9 (kst_newsOf N9 (sub_t (sub_t (sub_t (sub_t (sub_t sub_id)))))) hT1 hlt1 ?_
      repeat (first | exact off_refl | refine off_if rfl ?_ | refine off_same (by assumption) ?_)
    · rename_i q1 i1 j1 hH1
      obtain ⟨vi, r, t, u, rfl, hr⟩ := hP2.last hg
      have hsz : (vi ++ [Value.ref r]).toArray.size ≤ sizeLine := by
        have e1 := hP2.length
        have e2 : (sx.filter (fun x => decide (x.2 ≤ (c : Int)))).length ≤ sx.length := List.length_filter_le _ _
        rw [List.size_toArray, sizeLine_eq]; omega
      obtain ⟨hq1, hq2, hq3, hq4, hq5, hq6, hq7, hq8, hq9⟩ := id hH1
      rw [hW] at N8 hr
      replace N8 := kst_newsOf N8 (sub_c (.tail _ (.tail _ (.tail _ (.tail _ hq1)))) (sub_c (.tail _ (.tail _ (.tail _ (.tail _ hq2)))) (sub_c (.tail _ hr) sub_id)))
      k_steps
      refine Stop.of ?_
      refine span_spec B F8 X (kst_newsOf N8 (sub_t (sub_t (sub_t sub_id)))) T rfl (by decide) (by decide) (hH1.mono (sub_t (sub_t (sub_t (sub_t sub_id))))) (fun D2 t2 u2 h2 tk3 F5 N5 hl2 => ?_)
      replace N5 := kst_newsOf N5 (sub_c (a := (r, pairObj i1 t j1 u)) (.tail _ (.tail _ hr)) sub_id)
      clear N8 F8
      k_steps
      rename_i F7 N7
      refine Stop.of ?_
      k_dflt (refine' kms_slice_lit (zs := [.ref r]) F7 N7 ?kl ?kp ?kq ?ke ?_ ?ks ?kt ?kz; (case kl => kmk_list); (case kp => kmk_part); (case kq => kmk_part); (case ke => exact pick_last); (case ks => with_unfolding_all rfl); (case kt => kmk_pure); (case kz => assumption))
      intro D9 h9 F9 N9 l9
      clear F7 N7
      (try k_lt l9)
      k_steps
      rename_i F9 N9 _
      refine h tl1 ps1 _ _ _ F9 (kst_newsOf N9 (sub_t (sub_t (sub_t (sub_t (sub_t (sub_t (sub_t sub_id)))))))) hT1 hlt1 ?_
      repeat (first | exact off_refl | refine off_if rfl ?_ | refine off_same (by assumption) ?_)
end
end Mine
end -- T2

section -- T3
open PySem PySem.W PyProof.Rows
set_option maxRecDepth 100000
set_option maxHeartbeats 1200000
namespace Mine
section
variable {w : World} {p : Program} {loose : List Str} {mean : ExcName → Option Value} {mg mb : Str → Option Value} {h₀ : Heap} {L fa : Addr} {cd : Value} {s : Shared} {Q : Flow → Shared → Prop} {E : Value → Shared → Prop} {m : Str → Option Value} {news : List (Addr × Obj)} {ps : Array Value}
theorem revGo_in {find : Nat → Option (Int × Int)} {n : Nat} (Hf : Finds find n) (col : Int) : ∀ (f : Nat) (found : Option (Int × Int)) (cd : Int × Int), (∀ i j, found = some (i, j) → 0 ≤ i ∧ i < (n : Int)) → (0 ≤ cd.1 ∧ cd.1 < (n : Int)) →
    ∀ i j, revGo find col f found cd = some (i, j) → 0 ≤ i ∧ i < (n : Int)
  | 0, found, cd, h1, _, i, j, e => h1 i j e
  | f + 1, found, (a, b), h1, h2, i, j, e => by
    simp only [revGo] at e
    split at e
    · split at e
      · cases e; exact h2
      · rename_i c hm
        refine revGo_in Hf col f (some (a, b)) c (fun i' j' e' => ?_) ?_ i j e
        · cases e'; exact h2
        · have := Hf.lo _ c.1 c.2 hm; omega
    · exact h1 i j e
theorem revFind_in {find : Nat → Option (Int × Int)} {n : Nat} (Hf : Finds find n) {col i j : Int} (e : revFind find col n = some (i, j)) : 0 ≤ i ∧ i < (n : Int) := by
  unfold revFind at e
  split at e
  · cases e
  · rename_i c hm
    refine revGo_in Hf col (n + 1) none c (fun _ _ h => nomatch h) ?_ i j e
    have := Hf.lo _ c.1 c.2 hm; omega
theorem turn3 {lLa lSe lCa lBo qU : Addr} {vLa vSe vCa vBo : List Value} {kLa kSe kCa kBo c : Nat} {la sn ca bo : List Int} {x top : Int} {tc tx : Tok} {oC : Obj}
    (B : Below callerA h₀ [] h₀) (F : Fr h₀ L s.heap m) (X : (hd.heap_39 w.params).In h₀) (N : News h₀ L s.heap ((100, tabObj ps) :: (lSe, W.listOf vSe.toArray kSe) :: news)) (T : Top p loose mean mg mb h₀) (hC : CodeHd h₀ 104 100)
    (hn : ∀ p ∈ news, p.1 ≠ 100) (hse : @LT.lt Nat _ 100 lSe) (hoff : ∀ p ∈ news, p.1 ≠ lSe) (hT : HitTab news ps) (hq : UnlikeIn news qU)
    (hS : (lLa, W.listOf vLa.toArray kLa) ∈ news) (hS2 : (lCa, W.listOf vCa.toArray kCa) ∈ news) (hS3 : (lBo, W.listOf vBo.toArray kBo) ∈ news) (hc : (L + 1 + 1 + 1 + 1, oC) ∈ news) (dC : oC.data = .cell (some (.int (c : Int) tc)))
    (mU : m (Str.ofString "unlike") = some (.ref qU)) (mL : m (Str.ofString "lacks") = some (.ref lLa)) (mS : m (Str.ofString "seen") = some (.ref lSe)) (mC : m (Str.ofString "carry") = some (.int x tx)) (mCa : m (Str.ofString "carries") = some (.ref lCa)) (mBo : m (Str.ofString "borrows") = some (.ref lBo))
    (iLa : IntsAre vLa la) (iSe : IntsAre vSe sn) (iCa : IntsAre vCa ca) (iBo : IntsAre vBo bo) (hcn : c ≤ la.length) (hn9 : la.length ≤ 9) (hse9 : sn.length ≤ 100) (hca9 : ca.length = la.length + 1) (hbo9 : bo.length = la.length + 1)
    (htop : hitVal la (revFind (unlikeFind la) (c : Int) la.length) = top) (hx : ca.getD c 0 = x) (hy : bo.getD c 0 = if top < 0 then 1 else 0)
    (h : ∀ tl ps' h' tk' m' vS' kS', Fr h₀ L h' m' → News h₀ L h' ((100, tabObj ps') :: (lSe, W.listOf vS'.toArray kS') :: (tl ++ news)) → IntsAre vS' (sn ++ [top]) → HitTab (tl ++ news) ps' → (∀ p ∈ tl, AllLt p.1 ((100, tabObj ps) :: (lSe, W.listOf vSe.toArray kSe) :: news)) →
      Off [Str.ofString "last", Str.ofString "top", Str.ofString "borrow"] m m' → (∃ t, m' (Str.ofString "top") = some (.int top t)) → (∃ t, m' (Str.ofString "borrow") = some (.int (if top < 0 then 1 else 0) t)) →
      Q .next { s with heap := h', toks := tk' }) :
    wpAny (model PR w) (callerA.deeper (envOfC (Str.ofString "law") lawParts.2.2 L fa cd)) (execs (turnSeg 7 5) (envOfC (Str.ofString "law") lawParts.2.2 L fa cd)) Q E s := by
  k_with_none
  w_top off
  k_with "call ref cons nil" => first | (k_here; (with_reducible show wpAny _ _ (call (Value.ref _) [_, _]) _ _ _); k_dflt ((first | refine' getitem_op ?zqB ?zqF ?zqX ?zqN ?zqT ?zqk ?zqd ?zqu ?zqm ?zqi ?zqg ?zql ?zqn ?_ | refine' floordiv_op ?zqB ?zqF ?zqX ?zqN ?zqT ?zqk ?zqd ?zqu ?zqy ?zqp ?_ | refine' mod_op ?zqB ?zqF ?zqX ?zqN ?zqT ?zqk ?zqd ?zqu ?zqy ?_ | refine' add_op ?zqB ?zqF ?zqX ?zqN ?zqT ?zqk ?zqd ?zqu ?_ | refine' sub_op ?zqB ?zqF ?zqX ?zqN ?zqT ?zqk ?zqd ?zqu ?_ | refine' lt_op ?zqB ?zqF ?zqX ?zqN ?zqT ?zqk ?zqd ?zqu ?_ | refine' le_op ?zqB ?zqF ?zqX ?zqN ?zqT ?zqk ?zqd ?zqu ?_ | refine' eq_op ?zqB ?zqF ?zqX ?zqN ?zqT ?zqk ?zqd ?zqu ?_ | refine' ne_op ?zqB ?zqF ?zqX ?zqN ?zqT ?zqk ?zqd ?zqu ?_ | refine' ge_op ?zqB ?zqF ?zqX ?zqN ?zqT ?zqk ?zqd ?zqu ?_ | refine' gt_op ?zqB ?zqF ?zqX ?zqN ?zqT ?zqk ?zqd ?zqu ?_); (case zqB => k_asm); (case zqF => k_asm); (case zqX => k_asm); (case zqN => k_asm); (case zqT => k_asm); (case zqk => exact rfl); (case zqd => first | decide | omega); (case zqu => first | decide | omega); (try (case zqy => first | assumption | omega)); (try (case zqp => assumption)); (try (case zqm => k_mem)); (try (case zqi => assumption)); (try (case zqg => omega)); (try (case zql => omega)); (try (case zqn => omega)); k_whole); intros; (try dsimp only)) | refine Stop.out ?_
  k_with "call ref nil nil" => refine Stop.out ?_
  k_with "getMethod ref" => (k_dflt (refine' fn_method ?zql ?zqf ?zqd ?zqn ?zqv ?zqh ?_; (case zql => first | exact fn_no_span | exact fn_no_search); (case zqf => exact News.get (by k_asm) (by k_mem)); (case zqd => exact News.get (by k_asm) (by k_mem)); (case zqn => assumption); (case zqv => exact if_pos rfl); (case zqh => exact rfl); k_whole))
  k_with "truthy ref" => (k_dflt (refine' fn_truthy ?zqf ?_; (case zqf => exact News.get (by k_asm) (by k_mem)); k_whole))
  revert X; unfold PR at *; k_fill; intro X
  unfold turnSeg at *
  conv =>
    pattern (occs := *) turnBody
    all_goals whnf
  conv =>
    pattern (occs := *) lawParts
    all_goals whnf
  dsimp only [List.drop, List.take]
  have F1 := fr_as F [(Str.ofString "unlike", .ref qU), (Str.ofString "lacks", .ref lLa), (Str.ofString "seen", .ref lSe), (Str.ofString "carry", .int x tx), (Str.ofString "carries", .ref lCa), (Str.ofString "borrows", .ref lBo)] (fr_c mU (fr_c mL (fr_c mS (fr_c mC (fr_c mCa (fr_c mBo fr_n))))))
  dsimp only [kstB] at F1
  have zLa : vLa.length = la.length := iLa.length
  have zSe : vSe.length = sn.length := iSe.length
  have zCa : vCa.length = ca.length := iCa.length
  have zBo : vBo.length = bo.length := iBo.length
  have N1 : News h₀ L s.heap ((L + 1 + 1 + 1 + 1, oC) :: (100, tabObj ps) :: (lSe, W.listOf vSe.toArray kSe) :: news) := kst_newsOf N (sub_c (.tail _ (.tail _ hc)) sub_id)
  clear F N
  try k_fold
  k_steps
  refine Stop.of ?_
  refine unlike_told (ns := la) (n := kLa) (vs := vLa) B F1 X (kst_newsOf N1 (sub_t sub_id)) (.tail _ hS) (hq.mono (sub_t sub_id)) T hC (List.forall_mem_cons.mpr ⟨Nat.ne_of_gt hse, hn⟩) rfl (by decide) (by decide) (hT.mono (sub_t sub_id)) iLa (by omega) (by omega) (fun v1 tl1 ps1 g2 tk2 F3 N3 hT1 hF1 hlt1 => ?_)
  clear F1 N1
  replace hT1 : HitTab (tl1 ++ news) ps1 := hT1.only (by intro p hp; rcases List.mem_append.mp hp with hp | hp; exact .inl (List.mem_append_left _ hp); rcases List.mem_cons.mp hp with rfl | hp; exact .inr noCode_list; exact .inl (List.mem_append_right _ hp))
  have hoff1 : ∀ p ∈ tl1 ++ news, p.1 ≠ lSe := fun p hp => by
    rcases List.mem_append.mp hp with hp | hp
    · exact Nat.ne_of_gt (hlt1 p hp).2.1
    · exact hoff p hp
  replace N3 : News h₀ L g2 ((lSe, W.listOf vSe.toArray kSe) :: (100, tabObj ps1) :: (tl1 ++ news)) := kst_newsOf N3 (sub_c (by simp) (sub_c (by simp) (sub_t (sub_o (sub_l sub_id) (sub_r (sub_t sub_id))))))
  have hcse := hoff _ hc
  have hcase := hoff _ hS2
  have hbose := hoff _ hS3
  have hlase := hoff _ hS
  dsimp only at hcse hcase hbose hlase
  replace N3 := kst_newsOf N3 (sub_c (a := (lSe, W.listOf vSe.toArray kSe)) (by repeat (first | exact .head _ | assumption | exact List.mem_append_left _ (by assumption) | refine .tail _ ?_ | refine List.mem_append_right _ ?_)) (sub_c (a := (L + 1 + 1 + 1 + 1, oC)) (by repeat (first | exact .head _ | assumption | exact List.mem_append_left _ (by assumption) | refine .tail _ ?_ | refine List.mem_append_right _ ?_)) (sub_c (a := (lCa, W.listOf vCa.toArray kCa)) (by repeat (first | exact .head _ | assumption | exact List.mem_append_left _ (by assumption) | refine .tail _ ?_ | refine List.mem_append_right _ ?_)) (sub_c (a := (lBo, W.listOf vBo.toArray kBo)) (by repeat (first | exact .head _ | assumption | exact List.mem_append_left _ (by assumption) | refine .tail _ ?_ | refine List.mem_append_right _ ?_)) (sub_c (a := (lLa, W.listOf vLa.toArray kLa)) (by repeat (first | exact .head _ | assumption | exact List.mem_append_left _ (by assumption) | refine .tail _ ?_ | refine List.mem_append_right _ ?_)) (l' := (100, tabObj ps1) :: (tl1 ++ news)) (sub_t sub_id))))))
  generalize hr1 : revFind (unlikeFind la) (c : Int) la.length = r1 at hF1 htop
  cases hF1
  · replace htop : top = 0 := htop.symm
    subst htop
    have hx' : x = ca.getD ((c : Int)).toNat 0 := by rw [Int.toNat_natCast]; exact hx.symm
    have hy' : 0 = bo.getD ((c : Int)).toNat 0 := by rw [Int.toNat_natCast, hy]; rfl
    k_steps
    all_goals first | exact absurd hx' (by assumption) | exact absurd hy' (by assumption) | skip
    rename_i F9 N9 _ _ _ _
    rw [List.push_toArray] at N9
    refine h tl1 ps1 _ _ _ _ _ F9 (kst_newsOf N9 (sub_c (.tail _ (.tail _ (.tail _ (.tail _ (.tail _ (.head _)))))) (sub_c (.head _) (sub_t (sub_t (sub_t (sub_t (sub_t (sub_t sub_id))))))))) (iSe.append (.cons _ _ .nil)) hT1 hlt1 ?_ ?_ ?_
    · repeat (first | exact off_refl | refine off_if rfl ?_ | refine off_same (by assumption) ?_)
    · exact ⟨_, rfl⟩
    · exact ⟨_, rfl⟩
  · rename_i q1 i1 j1 hH1
    have hin := revFind_in unlike_finds hr1
    replace htop : top = la.getD i1.toNat 0 := htop.symm
    subst htop
    have hx' : x = ca.getD ((c : Int)).toNat 0 := by rw [Int.toNat_natCast]; exact hx.symm
    have hy' : (if la.getD i1.toNat 0 < 0 then 1 else 0) = bo.getD ((c : Int)).toNat 0 := by rw [Int.toNat_natCast, hy]
    have hH2 := hH1.only mid_list
    obtain ⟨hq1, hq2, hq3, hq4, hq5, hq6, hq7, hq8, hq9⟩ := id hH2
    have o1 := hoff1 _ hq1
    have o2 := hoff1 _ hq2
    dsimp only at o1 o2
    replace N3 := kst_newsOf N3 (sub_c (.head _) (sub_c (.tail _ (.tail _ (.tail _ (.tail _ (.tail _ (.tail _ hq1)))))) (sub_c (.tail _ (.tail _ (.tail _ (.tail _ (.tail _ (.tail _ hq2)))))) (sub_t sub_id))))
    k_steps
    rename_i F4 N4
    refine Stop.of ?_
    refine span_spec B F4 X N4 T rfl (by decide) (by decide) (hH2.mono (sub_t (sub_t (sub_t (sub_t (sub_t (sub_t (sub_t (sub_t sub_id))))))))) (fun D2 t2 u2 h2 tk3 F5 N5 hl2 => ?_)
    have o3 := hl2.1
    dsimp only at o3
    replace N5 := kst_newsOf N5 (sub_c (.tail _ (.head _)) (sub_c (.head _) (sub_t (sub_t sub_id))))
    clear F4 N4
    have hyp : la.getD i1.toNat 0 < 0 → (1 : Int) = bo.getD ((c : Int)).toNat 0 := fun q => by rw [if_pos q] at hy'; exact hy'
    have hyn : ¬ la.getD i1.toNat 0 < 0 → (0 : Int) = bo.getD ((c : Int)).toNat 0 := fun q => by rw [if_neg q] at hy'; exact hy'
    k_steps
    all_goals first | exact absurd hx' (by assumption) | exact absurd (hyp (by assumption)) (by assumption) | exact absurd (hyn (by assumption)) (by assumption) | skip
    · rename_i hle h9 F9 N9 _ _ _ _
      rw [List.push_toArray] at N9
      refine h tl1 ps1 _ _ _ _ _ F9 (kst_newsOf N9 (sub_c (.tail _ (.tail _ (.tail _ (.tail _ (.tail _ (.tail _ (.tail _ (.tail _ (.head _))))))))) (sub_c (.head _) (sub_t (sub_t (sub_t (sub_t (sub_t (sub_t (sub_t (sub_t (sub_t sub_id)))))))))))) (iSe.append (.cons _ _ .nil)) hT1 hlt1 ?_ ?_ ?_
      · repeat (first | exact off_refl | refine off_if rfl ?_ | refine off_same (by assumption) ?_)
      · exact ⟨_, rfl⟩
      · rw [if_pos hle]; exact ⟨_, rfl⟩
    · rename_i hle h9 F9 N9 _ _ _ _
      rw [List.push_toArray] at N9
      refine h tl1 ps1 _ _ _ _ _ F9 (kst_newsOf N9 (sub_c (.tail _ (.tail _ (.tail _ (.tail _ (.tail _ (.tail _ (.tail _ (.tail _ (.head _))))))))) (sub_c (.head _) (sub_t (sub_t (sub_t (sub_t (sub_t (sub_t (sub_t (sub_t (sub_t sub_id)))))))))))) (iSe.append (.cons _ _ .nil)) hT1 hlt1 ?_ ?_ ?_
      · repeat (first | exact off_refl | refine off_if rfl ?_ | refine off_same (by assumption) ?_)
      · exact ⟨_, rfl⟩
      · rw [if_neg hle]; exact ⟨_, rfl⟩
end
end Mine
end -- T3

section -- T4
open PySem PySem.W PyProof.Rows
set_option maxRecDepth 100000
set_option maxHeartbeats 1200000
namespace Mine
section
variable {w : World} {p : Program} {loose : List Str} {mean : ExcName → Option Value} {mg mb : Str → Option Value} {h₀ : Heap} {L fa : Addr} {cd : Value} {s : Shared} {Q : Flow → Shared → Prop} {E : Value → Shared → Prop} {m : Str → Option Value} {news : List (Addr × Obj)} {ps : Array Value}
theorem turn4 {lSu lLa lTo lRe lSe : Addr} {vSu vLa vTo vRe vSe : List Value} {kSu kLa kTo kRe kSe c n : Nat} {su la to re sn : List Int} {b x y wh lk : Int} {tb tc tx ty tn tw tk : Tok} {oB oC : Obj}
    (B : Below callerA h₀ [] h₀) (F : Fr h₀ L s.heap m) (X : (hd.heap_39 w.params).In h₀) (N : News h₀ L s.heap ((lSe, W.listOf vSe.toArray kSe) :: news)) (T : Top p loose mean mg mb h₀)
    (hoff : ∀ p ∈ news, p.1 ≠ lSe)
    (hS1 : (lSu, W.listOf vSu.toArray kSu) ∈ news) (hS2 : (lLa, W.listOf vLa.toArray kLa) ∈ news) (hS3 : (lTo, W.listOf vTo.toArray kTo) ∈ news) (hS4 : (lRe, W.listOf vRe.toArray kRe) ∈ news)
    (hc : (L + 1 + 1 + 1 + 1, oC) ∈ news) (dC : oC.data = .cell (some (.int (c : Int) tc))) (hB : (L + 1, oB) ∈ news) (dB : oB.data = .cell (some (.int b tb)))
    (m1 : m (Str.ofString "size") = some (.int (n : Int) tn)) (m2 : m (Str.ofString "whole") = some (.int wh tw)) (m3 : m (Str.ofString "lack") = some (.int lk tk)) (m4 : m (Str.ofString "sums") = some (.ref lSu)) (m5 : m (Str.ofString "lacks") = some (.ref lLa))
    (m6 : m (Str.ofString "total") = some (.ref lTo)) (m7 : m (Str.ofString "remnant") = some (.ref lRe)) (m8 : m (Str.ofString "seen") = some (.ref lSe)) (m9 : m (Str.ofString "carry") = some (.int x tx)) (m10 : m (Str.ofString "borrow") = some (.int y ty))
    (iSu : IntsAre vSu su) (iLa : IntsAre vLa la) (iTo : IntsAre vTo to) (iRe : IntsAre vRe re) (iSe : IntsAre vSe sn) (hcn : c ≤ n) (hn9 : n ≤ 9) (zsu : su.length = n) (zla : la.length = n) (zto : to.length = n) (zre : re.length = n) (hse9 : sn.length ≤ 200)
    (hb : 2 ≤ b) (hb' : b ≤ 10)
    (hW1 : c < n → Int.fmod (Int.fdiv wh (b ^ c)) b = to.getD c 0) (hW2 : c < n → Int.fmod (su.getD c 0 + x) b = to.getD c 0) (hL1 : c < n → Int.fmod (Int.fdiv lk (b ^ c)) b = re.getD c 0) (hL2 : c < n → Int.fmod (la.getD c 0 - y) b = re.getD c 0)
    (h : ∀ h' tk' m' vS' kS' sn', Fr h₀ L h' m' → News h₀ L h' ((lSe, W.listOf vS'.toArray kS') :: news) → IntsAre vS' sn' → sn'.length ≤ sn.length + 4 →
      Off [Str.ofString "power", Str.ofString "added", Str.ofString "taken"] m m' →
      Q .next { s with heap := h', toks := tk' }) :
    wpAny (model PR w) (callerA.deeper (envOfC (Str.ofString "law") lawParts.2.2 L fa cd)) (execs (turnSeg 12 1) (envOfC (Str.ofString "law") lawParts.2.2 L fa cd)) Q E s := by
  k_with_none
  w_top off
  k_with "call ref cons nil" => first | (k_here; (with_reducible show wpAny _ _ (call (Value.ref _) [_, _]) _ _ _); k_dflt ((first | refine' getitem_op ?zqB ?zqF ?zqX ?zqN ?zqT ?zqk ?zqd ?zqu ?zqm ?zqi ?zqg ?zql ?zqn ?_ | refine' floordiv_op ?zqB ?zqF ?zqX ?zqN ?zqT ?zqk ?zqd ?zqu ?zqy ?zqp ?_ | refine' mod_op ?zqB ?zqF ?zqX ?zqN ?zqT ?zqk ?zqd ?zqu ?zqy ?_ | refine' add_op ?zqB ?zqF ?zqX ?zqN ?zqT ?zqk ?zqd ?zqu ?_ | refine' sub_op ?zqB ?zqF ?zqX ?zqN ?zqT ?zqk ?zqd ?zqu ?_ | refine' lt_op ?zqB ?zqF ?zqX ?zqN ?zqT ?zqk ?zqd ?zqu ?_ | refine' le_op ?zqB ?zqF ?zqX ?zqN ?zqT ?zqk ?zqd ?zqu ?_ | refine' eq_op ?zqB ?zqF ?zqX ?zqN ?zqT ?zqk ?zqd ?zqu ?_ | refine' ne_op ?zqB ?zqF ?zqX ?zqN ?zqT ?zqk ?zqd ?zqu ?_ | refine' ge_op ?zqB ?zqF ?zqX ?zqN ?zqT ?zqk ?zqd ?zqu ?_ | refine' gt_op ?zqB ?zqF ?zqX ?zqN ?zqT ?zqk ?zqd ?zqu ?_); (case zqB => k_asm); (case zqF => k_asm); (case zqX => k_asm); (case zqN => k_asm); (case zqT => k_asm); (case zqk => exact rfl); (case zqd => first | decide | omega); (case zqu => first | decide | omega); (try (case zqy => first | assumption | omega)); (try (case zqp => assumption)); (try (case zqm => k_mem)); (try (case zqi => assumption)); (try (case zqg => omega)); (try (case zql => omega)); (try (case zqn => omega)); k_whole); intros; (try dsimp only)) | refine Stop.out ?_
  k_with "call ref nil nil" => refine Stop.out ?_
  k_with "call builtin:list.extend" => refine Stop.out ?_
  revert X; unfold PR at *; k_fill; intro X
  unfold turnSeg at *
  conv =>
    pattern (occs := *) turnBody
    all_goals whnf
  conv =>
    pattern (occs := *) lawParts
    all_goals whnf
  dsimp only [List.drop, List.take]
  have F1 := fr_as F [(Str.ofString "size", .int (n : Int) tn), (Str.ofString "whole", .int wh tw), (Str.ofString "lack", .int lk tk), (Str.ofString "sums", .ref lSu), (Str.ofString "lacks", .ref lLa), (Str.ofString "total", .ref lTo), (Str.ofString "remnant", .ref lRe), (Str.ofString "seen", .ref lSe), (Str.ofString "carry", .int x tx), (Str.ofString "borrow", .int y ty)] (fr_c m1 (fr_c m2 (fr_c m3 (fr_c m4 (fr_c m5 (fr_c m6 (fr_c m7 (fr_c m8 (fr_c m9 (fr_c m10 fr_n))))))))))
  dsimp only [kstB] at F1
  have z1 : vSu.length = n := by rw [iSu.length, zsu]
  have z2 : vLa.length = n := by rw [iLa.length, zla]
  have z3 : vTo.length = n := by rw [iTo.length, zto]
  have z4 : vRe.length = n := by rw [iRe.length, zre]
  have z5 : vSe.length = sn.length := iSe.length
  have o1 := hoff _ hS1
  have o2 := hoff _ hS2
  have o3 := hoff _ hS3
  have o4 := hoff _ hS4
  have o5 := hoff _ hc
  have o6 := hoff _ hB
  dsimp only at o1 o2 o3 o4 o5 o6
  have N1 : News h₀ L s.heap ((lSe, W.listOf vSe.toArray kSe) :: (lSu, W.listOf vSu.toArray kSu) :: (lLa, W.listOf vLa.toArray kLa) :: (lTo, W.listOf vTo.toArray kTo) :: (lRe, W.listOf vRe.toArray kRe) :: (L + 1 + 1 + 1 + 1, oC) :: (L + 1, oB) :: news) := kst_newsOf N (sub_c (.head _) (sub_c (.tail _ hS1) (sub_c (.tail _ hS2) (sub_c (.tail _ hS3) (sub_c (.tail _ hS4) (sub_c (.tail _ hc) (sub_c (.tail _ hB) (sub_t sub_id))))))))
  have hpw : b ^ ((c : Int)).toNat ≠ 0 := by
    have := Int.pow_pos (n := b) (m := ((c : Int)).toNat) (by omega)
    omega
  have hpy1 := pow_small hb hb' (show ((c : Int)).toNat ≤ 9 by omega) wh
  have hpy2 := pow_small hb hb' (show ((c : Int)).toNat ≤ 9 by omega) lk
  have hz1 : vSe.toArray.size + 4 ≤ sizeLine := by rw [List.size_toArray, sizeLine_eq]; omega
  have hz2 : vSe.toArray.size + 4 ≤ sizeLine + 1 := by omega
  have hz3 : vSe.toArray.toList.length ≤ sizeLine := by show vSe.length ≤ _; rw [sizeLine_eq]; omega
  by_cases hlt : c < n
  · replace hW1 := hW1 hlt
    replace hW2 := hW2 hlt
    replace hL1 := hL1 hlt
    replace hL2 := hL2 hlt
    try k_fold
    k_steps
    · rename_i F8 N8 _
      refine Stop.of ?_
      k_dflt (refine' kl_extend F8 N8 ?b ?e ?ne ?U ?d ?z ?y ?_; (case b => k_mem); (case U => k_upd); (case e => exact rfl); (case ne => kl_some); (case d => exact extend_door (by assumption)); (case z => assumption); (case y => assumption))
      intro h9 F9 N9
      clear F8 N8
      k_steps
      refine h _ _ _ _ _ _ F9 (kst_newsOf N9 (sub_c (.tail _ (.tail _ (.tail _ (.tail _ (.tail _ (.head _)))))) (sub_t (sub_t (sub_t (sub_t (sub_t (sub_t (sub_t (sub_t (sub_t (sub_t (sub_t (sub_t sub_id)))))))))))))) (iSe.append (.cons _ _ (.cons _ _ (.cons _ _ (.cons _ _ .nil))))) ?_ ?_
      · simp only [List.length_append, List.length_cons, List.length_nil]; omega
      · repeat (first | exact off_refl | refine off_if rfl ?_ | refine off_same (by assumption) ?_)
    · rename_i q
      rw [Int.toNat_natCast, hL1, hL2] at q
      exact absurd rfl q
    · rename_i q
      rw [Int.toNat_natCast, hW1, hW2] at q
      exact absurd rfl q
  · try k_fold
    k_steps
    exact h s.heap s.toks m vSe kSe sn F N iSe (by omega) off_refl
end
end Mine
end -- T4

section -- T6
open PySem PySem.W PyProof.Rows
set_option maxRecDepth 100000
set_option maxHeartbeats 1200000
namespace Mine
section
variable {w : World} {p : Program} {loose : List Str} {mean : ExcName → Option Value} {mg mb : Str → Option Value} {h₀ : Heap} {L fa : Addr} {cd : Value} {s : Shared} {Q : Flow → Shared → Prop} {E : Value → Shared → Prop} {m : Str → Option Value} {news : List (Addr × Obj)} {ps : Array Value}
theorem ints_of_get : ∀ {vs : List Value} {ns : List Int} {i : Nat} {v : Value}, IntsAre vs ns → vs[i]? = some v → ∃ k t, v = .int k t
  | _, _, 0, _, .cons a t _, e => ⟨a, t, by cases e; rfl⟩
  | _, _, i + 1, _, .cons _ _ h, e => ints_of_get (i := i) h e
theorem Off.get' {xs : List Str} {m m' : Str → Option Value} {x : Str} {v : Option Value} (h : Off xs m m') (hx : xs.contains x = false) (e : m x = v) : m' x = v := (h x hx).trans e
theorem law_end1 {p1 p2 p3 : Array Value} {lSe lCa lBo : Addr} {vSe vCa vBo : List Value} {kSe kCa kBo n : Nat} {sn ca bo : List Int} {b wh lk : Int} {tb tn tw tk : Tok} {oB : Obj}
    (B : Below callerA h₀ [] h₀) (F : Fr h₀ L s.heap m) (X : (hd.heap_39 w.params).In h₀) (N : News h₀ L s.heap ((lSe, W.listOf vSe.toArray kSe) :: (lCa, W.listOf vCa.toArray kCa) :: (lBo, W.listOf vBo.toArray kBo) :: (L + 1, oB) :: [(100, tabObj p1), (107, tabObj p2), (114, tabObj p3)])) (T : Top p loose mean mg mb h₀)
    (dB : oB.data = .cell (some (.int b tb)))
    (m1 : m (Str.ofString "size") = some (.int (n : Int) tn)) (m2 : m (Str.ofString "whole") = some (.int wh tw)) (m3 : m (Str.ofString "lack") = some (.int lk tk)) (m4 : m (Str.ofString "carries") = some (.ref lCa)) (m5 : m (Str.ofString "borrows") = some (.ref lBo))
    (m6 : m (Str.ofString "seen") = some (.ref lSe))
    (iCa : IntsAre vCa ca) (iBo : IntsAre vBo bo) (iSe : IntsAre vSe sn) (hn9 : n ≤ 9) (zca : ca.length = n + 1) (zbo : bo.length = n + 1) (hse9 : sn.length ≤ 200)
    (hb : 2 ≤ b) (hb' : b ≤ 10)
    (hW : Int.fdiv wh (b ^ n) = ca.getD n 0) (hK : Int.fdiv lk (b ^ n) = - bo.getD n 0)
    (h : ∀ h' tk' m', Fr h₀ L h' m' → News h₀ L h' [(100, tabObj p1), (107, tabObj p2), (114, tabObj p3)] → Off [Str.ofString "above"] m m' → Q .next { s with heap := h', toks := tk' }) :
    wpAny (model PR w) (callerA.deeper (envOfC (Str.ofString "law") lawParts.2.2 L fa cd)) (execs ((lawRest 19).take 3) (envOfC (Str.ofString "law") lawParts.2.2 L fa cd)) Q E s := by
  k_with_none
  w_top off
  k_with "call ref cons nil" => first | (k_here; (with_reducible show wpAny _ _ (call (Value.ref _) [_, _]) _ _ _); k_dflt ((first | refine' getitem_op ?zqB ?zqF ?zqX ?zqN ?zqT ?zqk ?zqd ?zqu ?zqm ?zqi ?zqg ?zql ?zqn ?_ | refine' floordiv_op ?zqB ?zqF ?zqX ?zqN ?zqT ?zqk ?zqd ?zqu ?zqy ?zqp ?_ | refine' mod_op ?zqB ?zqF ?zqX ?zqN ?zqT ?zqk ?zqd ?zqu ?zqy ?_ | refine' add_op ?zqB ?zqF ?zqX ?zqN ?zqT ?zqk ?zqd ?zqu ?_ | refine' sub_op ?zqB ?zqF ?zqX ?zqN ?zqT ?zqk ?zqd ?zqu ?_ | refine' lt_op ?zqB ?zqF ?zqX ?zqN ?zqT ?zqk ?zqd ?zqu ?_ | refine' le_op ?zqB ?zqF ?zqX ?zqN ?zqT ?zqk ?zqd ?zqu ?_ | refine' eq_op ?zqB ?zqF ?zqX ?zqN ?zqT ?zqk ?zqd ?zqu ?_ | refine' ne_op ?zqB ?zqF ?zqX ?zqN ?zqT ?zqk ?zqd ?zqu ?_ | refine' ge_op ?zqB ?zqF ?zqX ?zqN ?zqT ?zqk ?zqd ?zqu ?_ | refine' gt_op ?zqB ?zqF ?zqX ?zqN ?zqT ?zqk ?zqd ?zqu ?_); (case zqB => k_asm); (case zqF => k_asm); (case zqX => k_asm); (case zqN => k_asm); (case zqT => k_asm); (case zqk => exact rfl); (case zqd => first | decide | omega); (case zqu => first | decide | omega); (try (case zqy => first | assumption | omega)); (try (case zqp => assumption)); (try (case zqm => k_mem)); (try (case zqi => assumption)); (try (case zqg => omega)); (try (case zql => omega)); (try (case zqn => omega)); k_whole); intros; (try dsimp only)) | refine Stop.out ?_
  k_with "call ref nil nil" => refine Stop.out ?_
  k_with "CompSrcT" => refine Stop.out ?_
  revert X; unfold PR at *; k_fill; intro X
  unfold lawRest at *
  conv =>
    pattern (occs := *) lawParts
    all_goals whnf
  dsimp only [List.drop, List.take]
  have F1 := fr_as F [(Str.ofString "size", .int (n : Int) tn), (Str.ofString "whole", .int wh tw), (Str.ofString "lack", .int lk tk), (Str.ofString "carries", .ref lCa), (Str.ofString "borrows", .ref lBo), (Str.ofString "seen", .ref lSe)] (fr_c m1 (fr_c m2 (fr_c m3 (fr_c m4 (fr_c m5 (fr_c m6 fr_n))))))
  dsimp only [kstB] at F1
  have z1 : vCa.length = n + 1 := by rw [iCa.length, zca]
  have z2 : vBo.length = n + 1 := by rw [iBo.length, zbo]
  have z5 : vSe.length = sn.length := iSe.length
  clear F
  have hpw : b ^ ((n : Int)).toNat ≠ 0 := by
    have := Int.pow_pos (n := b) (m := ((n : Int)).toNat) (by omega)
    omega
  have hpy1 := pow_small hb hb' (show ((n : Int)).toNat ≤ 9 by omega) wh
  have hpy2 := pow_small hb hb' (show ((n : Int)).toNat ≤ 9 by omega) lk
  try k_fold
  k_steps
  · rename_i D ws h3 F4 N4 iW l1
    refine Stop.of ?_
    have zW : ws.length ≤ 300 := by rw [iW.length]; simp only [List.length_append, List.length_cons, List.length_nil]; omega
    refine LCt.CompSrcT.ledger (by rfl) F4 N4 (.head _) (by rw [List.size_toArray, sizeLine_eq]; omega) ?_
    intro g1
    generalize hWW : ((D, W.listOf ws.toArray 0) :: _ : List (Addr × Obj)) = WW
    refine compRestT_inv (n := ws.toArray.size) (fun i ys nw => nw = WW ∧ ys = []) ?_ ?_ _ 0 [] _ (Nat.zero_add _) ⟨rfl, rfl⟩
    · rintro i ys nw hi ⟨rfl, rfl⟩ v2 I oI C oC' D' m₂ h5 tk5 E5 hv hNs hx F5 N5 off5 ne5
      clear F4 N4
      rw [List.size_toArray] at hi
      rw [List.getElem?_toArray] at hv
      obtain ⟨k, t, rfl⟩ : ∃ k t, v2 = .int k t := ints_of_get iW hv
      k_steps
      exact LCg.CompEnd.intro F5 N5 nw (fun _ hp => hp) off5 (.inr ⟨_, by rw [← hWW]; exact .head _, rfl, _, rfl⟩) ⟨rfl, by trivial⟩
    · rintro ys nw ⟨rfl, rfl⟩ D' g8 tk8 F8 N8 of8
      clear F4 N4
      rw [← hWW] at N8
      k_steps
      rename_i F9 N9 _
      refine h _ _ _ F9 (kst_newsOf N9 ?_) ?_
      · repeat (first | exact sub_id | exact sub_n | refine sub_c (by repeat (first | exact .head _ | assumption | exact List.mem_append_left _ (by assumption) | refine .tail _ ?_ | refine List.mem_append_right _ ?_)) ?_ | refine sub_t ?_ | exact sub_l sub_id | exact sub_r sub_id | refine sub_o ?_ ?_ | refine sub_r ?_)
      · repeat (first | exact off_refl | refine off_if rfl ?_ | refine off_same (by assumption) ?_)
  · rename_i q
    rw [Int.toNat_natCast, hW, hK] at q
    exact absurd rfl q
theorem law_end2 {p1 p2 p3 : Array Value} {top x y : Int} {tx ty tt : Tok}
    (B : Below callerA h₀ [] h₀) (F : Fr h₀ L s.heap m) (X : (hd.heap_39 w.params).In h₀) (N : News h₀ L s.heap [(100, tabObj p1), (107, tabObj p2), (114, tabObj p3)]) (T : Top p loose mean mg mb h₀)
    (m7 : m (Str.ofString "top") = some (.int top tt)) (m8 : m (Str.ofString "a") = some (.int x tx)) (m9 : m (Str.ofString "b") = some (.int y ty))
    (hlt : x < y ↔ top < 0) (hgt : y < x ↔ 0 < top)
    (hpass : PassesOwn (model PR w) (callerA.deeper (envOfC (Str.ofString "law") lawParts.2.2 L fa cd)) (envOfC (Str.ofString "law") lawParts.2.2 L fa cd) E)
    (h : ∀ h' tk' m', Fr h₀ L h' m' → News h₀ L h' [(100, tabObj p1), (107, tabObj p2), (114, tabObj p3)] → Q (.ret (.bool true)) { s with heap := h', toks := tk' }) :
    wpAny (model PR w) (callerA.deeper (envOfC (Str.ofString "law") lawParts.2.2 L fa cd)) (execs (lawRest 22) (envOfC (Str.ofString "law") lawParts.2.2 L fa cd)) Q E s := by
  k_with_none
  w_top off
  k_with "call ref cons nil" => first | (k_here; (with_reducible show wpAny _ _ (call (Value.ref _) [_, _]) _ _ _); k_dflt ((first | refine' getitem_op ?zqB ?zqF ?zqX ?zqN ?zqT ?zqk ?zqd ?zqu ?zqm ?zqi ?zqg ?zql ?zqn ?_ | refine' floordiv_op ?zqB ?zqF ?zqX ?zqN ?zqT ?zqk ?zqd ?zqu ?zqy ?zqp ?_ | refine' mod_op ?zqB ?zqF ?zqX ?zqN ?zqT ?zqk ?zqd ?zqu ?zqy ?_ | refine' add_op ?zqB ?zqF ?zqX ?zqN ?zqT ?zqk ?zqd ?zqu ?_ | refine' sub_op ?zqB ?zqF ?zqX ?zqN ?zqT ?zqk ?zqd ?zqu ?_ | refine' lt_op ?zqB ?zqF ?zqX ?zqN ?zqT ?zqk ?zqd ?zqu ?_ | refine' le_op ?zqB ?zqF ?zqX ?zqN ?zqT ?zqk ?zqd ?zqu ?_ | refine' eq_op ?zqB ?zqF ?zqX ?zqN ?zqT ?zqk ?zqd ?zqu ?_ | refine' ne_op ?zqB ?zqF ?zqX ?zqN ?zqT ?zqk ?zqd ?zqu ?_ | refine' ge_op ?zqB ?zqF ?zqX ?zqN ?zqT ?zqk ?zqd ?zqu ?_ | refine' gt_op ?zqB ?zqF ?zqX ?zqN ?zqT ?zqk ?zqd ?zqu ?_); (case zqB => k_asm); (case zqF => k_asm); (case zqX => k_asm); (case zqN => k_asm); (case zqT => k_asm); (case zqk => exact rfl); (case zqd => first | decide | omega); (case zqu => first | decide | omega); (try (case zqy => first | assumption | omega)); (try (case zqp => assumption)); (try (case zqm => k_mem)); (try (case zqi => assumption)); (try (case zqg => omega)); (try (case zql => omega)); (try (case zqn => omega)); k_whole); intros; (try dsimp only)) | refine Stop.out ?_
  k_with "call ref nil nil" => refine Stop.out ?_
  k_with "CompSrcT" => refine Stop.out ?_
  revert X; unfold PR at *; k_fill; intro X
  unfold lawRest at *
  conv =>
    pattern (occs := *) lawParts
    all_goals whnf
  dsimp only [List.drop]
  have F1 := fr_as F [(Str.ofString "top", .int top tt), (Str.ofString "a", .int x tx), (Str.ofString "b", .int y ty)] (fr_c m7 (fr_c m8 (fr_c m9 fr_n)))
  dsimp only [kstB] at F1
  clear F
  have e1 : (decide (x < y) != decide (top < 0)) = false := by rw [decide_eq_decide.mpr hlt]; exact bne_self_eq_false _
  have e2 : (decide (x ≤ y) != decide (top ≤ 0)) = false := by rw [decide_eq_decide.mpr (show x ≤ y ↔ top ≤ 0 by omega)]; exact bne_self_eq_false _
  have e3 : ((x == y) != (top == 0)) = false := by rw [show (x == y) = (top == 0) by rw [Bool.eq_iff_iff, beq_iff_eq, beq_iff_eq]; omega]; exact bne_self_eq_false _
  have e4 : ((x != y) != (top != 0)) = false := by rw [show (x != y) = (top != 0) by rw [Bool.eq_iff_iff, bne_iff_ne, bne_iff_ne]; omega]; exact bne_self_eq_false _
  have e5 : (decide (y ≤ x) != decide (0 ≤ top)) = false := by rw [decide_eq_decide.mpr (show y ≤ x ↔ 0 ≤ top by omega)]; exact bne_self_eq_false _
  have e6 : (decide (y < x) != decide (0 < top)) = false := by rw [decide_eq_decide.mpr hgt]; exact bne_self_eq_false _
  try k_fold
  k_steps
  all_goals first
    | (exfalso; rename (_ != _) = true => q; first | (rw [e1] at q; cases q) | (rw [e2] at q; cases q) | (rw [e3] at q; cases q) | (rw [e4] at q; cases q) | (rw [e5] at q; cases q) | (rw [e6] at q; cases q))
    | skip
  rename_i F9 N9
  refine h _ _ _ F9 (kst_newsOf N9 ?_)
  repeat (first | exact sub_id | exact sub_n | refine sub_c (by repeat (first | exact .head _ | assumption | exact List.mem_append_left _ (by assumption) | refine .tail _ ?_ | refine List.mem_append_right _ ?_)) ?_ | refine sub_t ?_ | exact sub_l sub_id | exact sub_r sub_id | refine sub_o ?_ ?_ | refine sub_r ?_)
theorem end_parts : lawRest 19 = (lawRest 19).take 3 ++ lawRest 22 := by kernel_rfl
theorem law_end {p1 p2 p3 : Array Value} {lSe lCa lBo : Addr} {vSe vCa vBo : List Value} {kSe kCa kBo n : Nat} {sn ca bo : List Int} {b wh lk top x y : Int} {tb tx ty tn tw tk tt : Tok} {oB : Obj}
    (B : Below callerA h₀ [] h₀) (F : Fr h₀ L s.heap m) (X : (hd.heap_39 w.params).In h₀) (N : News h₀ L s.heap ((lSe, W.listOf vSe.toArray kSe) :: (lCa, W.listOf vCa.toArray kCa) :: (lBo, W.listOf vBo.toArray kBo) :: (L + 1, oB) :: [(100, tabObj p1), (107, tabObj p2), (114, tabObj p3)])) (T : Top p loose mean mg mb h₀)
    (dB : oB.data = .cell (some (.int b tb)))
    (m1 : m (Str.ofString "size") = some (.int (n : Int) tn)) (m2 : m (Str.ofString "whole") = some (.int wh tw)) (m3 : m (Str.ofString "lack") = some (.int lk tk)) (m4 : m (Str.ofString "carries") = some (.ref lCa)) (m5 : m (Str.ofString "borrows") = some (.ref lBo))
    (m6 : m (Str.ofString "seen") = some (.ref lSe)) (m7 : m (Str.ofString "top") = some (.int top tt)) (m8 : m (Str.ofString "a") = some (.int x tx)) (m9 : m (Str.ofString "b") = some (.int y ty))
    (iCa : IntsAre vCa ca) (iBo : IntsAre vBo bo) (iSe : IntsAre vSe sn) (hn9 : n ≤ 9) (zca : ca.length = n + 1) (zbo : bo.length = n + 1) (hse9 : sn.length ≤ 200)
    (hb : 2 ≤ b) (hb' : b ≤ 10)
    (hW : Int.fdiv wh (b ^ n) = ca.getD n 0) (hK : Int.fdiv lk (b ^ n) = - bo.getD n 0)
    (hlt : x < y ↔ top < 0) (hgt : y < x ↔ 0 < top)
    (hpass : PassesOwn (model PR w) (callerA.deeper (envOfC (Str.ofString "law") lawParts.2.2 L fa cd)) (envOfC (Str.ofString "law") lawParts.2.2 L fa cd) E)
    (h : ∀ h' tk' m', Fr h₀ L h' m' → News h₀ L h' [(100, tabObj p1), (107, tabObj p2), (114, tabObj p3)] → Q (.ret (.bool true)) { s with heap := h', toks := tk' }) :
    wpAny (model PR w) (callerA.deeper (envOfC (Str.ofString "law") lawParts.2.2 L fa cd)) (execs (lawRest 19) (envOfC (Str.ofString "law") lawParts.2.2 L fa cd)) Q E s := by
  rw [end_parts]
  refine execs_app (law_end1 B F X N T dB m1 m2 m3 m4 m5 m6 iCa iBo iSe hn9 zca zbo hse9 hb hb' hW hK (fun h1 tk1 f1 F1 N1 o1 => ?_))
  show wpAny _ _ (execs (lawRest 22) _) _ _ _
  exact law_end2 B F1 X N1 T (o1.get' rfl m7) (o1.get' rfl m8) (o1.get' rfl m9) hlt hgt hpass (fun h2 tk2 m2 F2 N2 => h h2 tk2 m2 F2 N2)
end
end Mine
end -- T6

end -- shared lines

section -- T5
open PySem PySem.W PyProof.Rows
set_option maxRecDepth 100000
set_option maxHeartbeats 1200000
namespace Mine
theorem turn_split : turnBody = turnSeg 0 3 ++ (turnSeg 3 4 ++ (turnSeg 7 5 ++ turnSeg 12 1)) := by
  have e : ∀ l : List Stmt, l.length = 13 → l = (l.drop 0).take 3 ++ ((l.drop 3).take 4 ++ ((l.drop 7).take 5 ++ (l.drop 12).take 1)) := by
    intro l h
    have h1 : (l.drop 12).take 1 = l.drop 12 := List.take_of_length_le (by rw [List.length_drop]; omega)
    have h2 : (l.drop 7).take 5 ++ l.drop 12 = l.drop 7 := by
      have := List.take_append_drop 5 (l.drop 7)
      rwa [List.drop_drop] at this
    have h3 : (l.drop 3).take 4 ++ l.drop 7 = l.drop 3 := by
      have := List.take_append_drop 4 (l.drop 3)
      rwa [List.drop_drop] at this
    rw [h1, h2, h3, List.drop_zero, List.take_append_drop]
  exact e turnBody (by decide +kernel)
noncomputable def turnNames : List Str := [Str.ofString "told", Str.ofString "carry", Str.ofString "near", Str.ofString "ended", Str.ofString "found", Str.ofString "last", Str.ofString "top", Str.ofString "borrow", Str.ofString "power", Str.ofString "added", Str.ofString "taken"]
theorem Off.get {xs : List Str} {m m' : Str → Option Value} {x : Str} {v : Option Value} (h : Off xs m m') (hx : xs.contains x = false) (e : m x = v) : m' x = v := (h x hx).trans e
theorem Off.wide {xs ys : List Str} {m m' : Str → Option Value} (h : Off xs m m') (hs : xs.all ys.contains = true) : Off ys m m' := fun z hz => by
  refine h z ?_
  rw [Bool.eq_false_iff]
  intro q
  rw [List.all_eq_true] at hs
  rw [List.contains_iff_mem] at q
  rw [hs z q] at hz
  cases hz
theorem Off.seq {xs : List Str} {m f g : Str → Option Value} (h : Off xs m f) (h' : Off xs f g) : Off xs m g := fun z hz => (h' z hz).trans (h z hz)
section
variable {w : World} {p : Program} {loose : List Str} {mean : ExcName → Option Value} {mg mb : Str → Option Value} {h₀ : Heap} {L fa : Addr} {cd : Value} {s : Shared} {Q : Flow → Shared → Prop} {E : Value → Shared → Prop} {m : Str → Option Value} {ps : Array Value}
theorem turn_all {lSe lLa lSu lSt lBo lRe lCa lTo qC qU I : Addr} {vSe vLa vSu vSt vBo vRe vCa vTo : List Value} {kSe kLa kSu kSt kBo kRe kCa kTo n c : Nat} {ls rs sn su la : List Int} {b : Int} {tb tn tw tk tc : Tok} {oB oC obj : Obj} {tl fixed : List (Addr × Obj)}
    (B : Below callerA h₀ [] h₀) (F : Fr h₀ L s.heap m) (X : (hd.heap_39 w.params).In h₀) (N : News h₀ L s.heap ((L + 1 + 1 + 1 + 1, oC) :: (I, obj) :: (100, tabObj ps) :: (lSe, W.listOf vSe.toArray kSe) :: (tl ++ fixed))) (T : Top p loose mean mg mb h₀) (hC : CodeHd h₀ 104 100)
    (hfix : ∀ p ∈ tl ++ fixed, @Ne Nat p.1 100 ∧ @Ne Nat p.1 lSe ∧ @Ne Nat p.1 (L + 1 + 1 + 1 + 1)) (hI : ∀ p ∈ (100, tabObj ps) :: (lSe, W.listOf vSe.toArray kSe) :: (tl ++ fixed), @Ne Nat p.1 I) (hIc : @Ne Nat I (L + 1 + 1 + 1 + 1)) (hse : @LT.lt Nat _ 100 lSe) (hsc : @Ne Nat lSe (L + 1 + 1 + 1 + 1)) (h1c : @LT.lt Nat _ 100 L)
    (dC : oC.data = .cell (some (.int (c : Int) tc))) (hobj : NotCode obj) (hT : HitTab (tl ++ fixed) ps) (hqC : ChainIn fixed qC (b - 1)) (hqU : UnlikeIn fixed qU)
    (hS1 : (lLa, W.listOf vLa.toArray kLa) ∈ fixed) (hS2 : (lSu, W.listOf vSu.toArray kSu) ∈ fixed) (hS3 : (lSt, W.listOf vSt.toArray kSt) ∈ fixed) (hS4 : (lBo, W.listOf vBo.toArray kBo) ∈ fixed) (hS5 : (lRe, W.listOf vRe.toArray kRe) ∈ fixed) (hS6 : (lCa, W.listOf vCa.toArray kCa) ∈ fixed) (hS7 : (lTo, W.listOf vTo.toArray kTo) ∈ fixed)
    (hB : (L + 1, oB) ∈ fixed) (dB : oB.data = .cell (some (.int b tb))) (hP : Pairs fixed vSt (stretchesOf ls rs b))
    (m1 : m (Str.ofString "chains") = some (.ref qC)) (m2 : m (Str.ofString "unlike") = some (.ref qU)) (m3 : m (Str.ofString "sums") = some (.ref lSu)) (m4 : m (Str.ofString "lacks") = some (.ref lLa)) (m5 : m (Str.ofString "stretches") = some (.ref lSt)) (m6 : m (Str.ofString "borrows") = some (.ref lBo)) (m7 : m (Str.ofString "remnant") = some (.ref lRe)) (m8 : m (Str.ofString "carries") = some (.ref lCa)) (m9 : m (Str.ofString "total") = some (.ref lTo)) (m10 : m (Str.ofString "seen") = some (.ref lSe))
    (m11 : m (Str.ofString "size") = some (.int (n : Int) tn)) (m12 : m (Str.ofString "whole") = some (.int (worthTo ls b n + worthTo rs b n) tw)) (m13 : m (Str.ofString "lack") = some (.int (worthTo ls b n - worthTo rs b n) tk))
    (hsu : su = (List.range n).map (fun k => ls.getD k 0 + rs.getD k 0)) (hla : la = (List.range n).map (fun k => ls.getD k 0 - rs.getD k 0))
    (iSu : IntsAre vSu su) (iLa : IntsAre vLa la) (iSe : IntsAre vSe sn)
    (iTo : IntsAre vTo ((List.range n).map (totalAt ls rs b))) (iCa : IntsAre vCa ((List.range (n + 1)).map (carryAt ls rs b))) (iRe : IntsAre vRe ((List.range n).map (remnantAt ls rs b))) (iBo : IntsAre vBo ((List.range (n + 1)).map (borrowAt ls rs)))
    (hcn : c ≤ n) (hn9 : n ≤ 9) (hll : ls.length = n) (hrl : rs.length = n) (hse9 : sn.length ≤ 100)
    (hb : 2 ≤ b) (hb' : b ≤ 10) (hld : ∀ k, 0 ≤ ls.getD k 0 ∧ ls.getD k 0 < b) (hrd : ∀ k, 0 ≤ rs.getD k 0 ∧ rs.getD k 0 < b)
    (h : ∀ ps' vSe' kSe' sn' tl' h' tk' m', Fr h₀ L h' m' → News h₀ L h' ((L + 1 + 1 + 1 + 1, oC) :: (I, obj) :: (100, tabObj ps') :: (lSe, W.listOf (List.toArray vSe') kSe') :: (tl' ++ fixed)) → IntsAre vSe' sn' → sn'.length ≤ sn.length + 5 → HitTab (tl' ++ fixed) ps' →
      (∀ p ∈ tl' ++ fixed, @Ne Nat p.1 100 ∧ @Ne Nat p.1 lSe ∧ @Ne Nat p.1 (L + 1 + 1 + 1 + 1)) → (∀ p ∈ tl' ++ fixed, @Ne Nat p.1 I) → Off turnNames m m' → (∃ t, m' (Str.ofString "top") = some (.int (topAt la c) t)) → Q .next { s with heap := h', toks := tk' }) :
    wpAny (model PR w) (callerA.deeper (envOfC (Str.ofString "law") lawParts.2.2 L fa cd)) (execs turnBody (envOfC (Str.ofString "law") lawParts.2.2 L fa cd)) Q E s := by
  have zsu : su.length = n := by rw [hsu]; simp
  have zla : la.length = n := by rw [hla]; simp
  rw [turn_split]
  refine execs_app ?_
  have nI : ∀ p ∈ tl ++ fixed, @Ne Nat p.1 I := fun p hp => hI p (.tail _ (.tail _ hp))
  refine turn1 (news := (lSe, W.listOf vSe.toArray kSe) :: (L + 1 + 1 + 1 + 1, oC) :: (I, obj) :: (tl ++ fixed)) (ls := ls) (rs := rs) (n := n) B F X (kst_newsOf N (sub_c (.tail _ (.tail _ (.head _))) (sub_c (.tail _ (.tail _ (.tail _ (.head _)))) (sub_c (.head _) (sub_c (.tail _ (.head _)) (sub_t (sub_t (sub_t (sub_t sub_id))))))))) T hC ?_
    (hT.mono (sub_t (sub_t (sub_t sub_id)))) (hqC.mono (sub_t (sub_t (sub_t (sub_r sub_id))))) (.tail _ (.tail _ (.tail _ (List.mem_append_right _ hS2)))) (.tail _ (.head _)) dC (.tail _ (.tail _ (.tail _ (List.mem_append_right _ hB)))) dB m1 m3 iSu hsu hcn hn9 hb hb' hld hrd (fun tl1 ps1 h1 tk1 f1 F1 N1 hT1 lt1 off1 mc1 => ?_)
  · intro p hp
    simp only [List.mem_cons] at hp
    rcases hp with rfl | rfl | rfl | hp
    · exact Nat.ne_of_gt hse
    · show @Ne Nat _ _; omega
    · exact Ne.symm (hI _ (.head _))
    · exact (hfix p hp).1
  have n1 : ∀ p ∈ tl1, @LT.lt Nat _ 100 p.1 ∧ @LT.lt Nat _ lSe p.1 ∧ @LT.lt Nat _ (L + 1 + 1 + 1 + 1) p.1 ∧ @LT.lt Nat _ I p.1 := fun p hp => ⟨(lt1 p hp).1, (lt1 p hp).2.1, (lt1 p hp).2.2.1, (lt1 p hp).2.2.2.1⟩
  have hm1 : ∀ {x : Str} {v : Option Value}, [Str.ofString "told", Str.ofString "carry"].contains x = false → m x = v → f1 x = v := fun hx e => off1.get hx e
  show wpAny _ _ (execs (turnSeg 3 4 ++ (turnSeg 7 5 ++ turnSeg 12 1)) _) _ _ _
  refine execs_app ?_
  have hstr : stretchesOf ls rs b = stretchFrom su (b - 1) 0 su.length := stretches_strs hb hld hrd hll hsu
  have hst9 : (stretchesOf ls rs b).length ≤ 9 := by
    unfold stretchesOf
    rw [List.length_map, List.length_range]
    exact Nat.le_trans begins_len (by omega)
  refine turn2 (news := tl1 ++ (lSe, W.listOf vSe.toArray kSe) :: (L + 1 + 1 + 1 + 1, oC) :: (I, obj) :: (tl ++ fixed)) (v := b - 1) (sx := stretchesOf ls rs b) (c := c) B F1 X N1 T hC ?_ hT1 (hqC.mono (sub_r (sub_t (sub_t (sub_t (sub_r sub_id))))))
    (List.mem_append_right _ (.tail _ (.tail _ (.tail _ (List.mem_append_right _ hS2))))) (List.mem_append_right _ (.tail _ (.tail _ (.tail _ (List.mem_append_right _ hS3))))) (List.mem_append_right _ (.tail _ (.head _))) dC (hm1 rfl m1) (hm1 rfl m3) (hm1 rfl m5) iSu (by omega) (by omega)
    (hP.mono (sub_r (sub_t (sub_t (sub_t (sub_r sub_id)))))) hst9 (by rw [hstr]; exact near_strs c) (fun tl2 ps2 h2 tk2 f2 F2 N2 hT2 lt2 off2 => ?_)
  · intro p hp
    simp only [List.mem_cons, List.mem_append] at hp
    rcases hp with hp | rfl | rfl | rfl | hp
    · exact Nat.ne_of_gt (n1 p hp).1
    · exact Nat.ne_of_gt hse
    · show @Ne Nat _ _; omega
    · exact Ne.symm (hI _ (.head _))
    · exact (hfix p (List.mem_append.mpr hp)).1
  have mem2 : ∀ (p : Addr × Obj), p ∈ (lSe, W.listOf vSe.toArray kSe) :: (L + 1 + 1 + 1 + 1, oC) :: (I, obj) :: (tl ++ fixed) → p ∈ tl1 ++ (lSe, W.listOf vSe.toArray kSe) :: (L + 1 + 1 + 1 + 1, oC) :: (I, obj) :: (tl ++ fixed) := fun p hp => List.mem_append_right _ hp
  have get2 : ∀ {d : Addr} {l : List (Addr × Obj)} {p : Addr × Obj}, AllLt d l → p ∈ l → @LT.lt Nat _ p.1 d := fun {d l p} ha hp => by
    induction l with
    | nil => cases hp
    | cons q l ih =>
      rcases List.mem_cons.mp hp with rfl | hp
      · exact ha.1
      · exact ih ha.2 hp
  have n2 : ∀ p ∈ tl2, @LT.lt Nat _ 100 p.1 ∧ @LT.lt Nat _ lSe p.1 ∧ @LT.lt Nat _ (L + 1 + 1 + 1 + 1) p.1 ∧ @LT.lt Nat _ I p.1 := fun p hp =>
    ⟨(lt2 p hp).1, get2 (lt2 p hp).2 (mem2 _ (.head _)), get2 (lt2 p hp).2 (mem2 _ (.tail _ (.head _))), get2 (lt2 p hp).2 (mem2 _ (.tail _ (.tail _ (.head _))))⟩
  have hm2 : ∀ {x : Str} {v : Option Value}, [Str.ofString "near", Str.ofString "ended", Str.ofString "found"].contains x = false → f1 x = v → f2 x = v := fun hx e => off2.get hx e
  show wpAny _ _ (execs (turnSeg 7 5 ++ turnSeg 12 1) _) _ _ _
  refine execs_app ?_
  obtain ⟨tcy, mc1⟩ := mc1
  have hse' : @Ne Nat (L + 1 + 1 + 1 + 1) lSe := Ne.symm hsc
  have off3 : ∀ p ∈ tl2 ++ (tl1 ++ (L + 1 + 1 + 1 + 1, oC) :: (I, obj) :: (tl ++ fixed)), @Ne Nat p.1 lSe ∧ @Ne Nat p.1 100 := by
    intro p hp
    simp only [List.mem_cons, List.mem_append] at hp
    rcases hp with hp | hp | rfl | rfl | hp
    · exact ⟨Nat.ne_of_gt (n2 p hp).2.1, Nat.ne_of_gt (n2 p hp).1⟩
    · exact ⟨Nat.ne_of_gt (n1 p hp).2.1, Nat.ne_of_gt (n1 p hp).1⟩
    · exact ⟨hse', by show @Ne Nat _ _; omega⟩
    · exact ⟨Ne.symm (hI _ (.tail _ (.head _))), Ne.symm (hI _ (.head _))⟩
    · exact ⟨(hfix p (List.mem_append.mpr hp)).2.1, (hfix p (List.mem_append.mpr hp)).1⟩
  have inF : ∀ p ∈ fixed, p ∈ tl2 ++ (tl1 ++ (L + 1 + 1 + 1 + 1, oC) :: (I, obj) :: (tl ++ fixed)) := sub_r (sub_r (sub_t (sub_t (sub_r sub_id))))
  refine turn3 (news := tl2 ++ (tl1 ++ (L + 1 + 1 + 1 + 1, oC) :: (I, obj) :: (tl ++ fixed))) (c := c) (la := la) (top := topAt la c) (kSe := kSe) B F2 X (kst_newsOf N2 ?_) T hC (fun p hp => (off3 p hp).2) hse (fun p hp => (off3 p hp).1) (hT2.only2 ?_) (hqU.mono inF) (inF _ hS1) (inF _ hS6) (inF _ hS4)
    (List.mem_append_right _ (List.mem_append_right _ (.head _))) dC (hm2 rfl (hm1 rfl m2)) (hm2 rfl (hm1 rfl m4)) (hm2 rfl (hm1 rfl m10)) (hm2 rfl mc1) (hm2 rfl (hm1 rfl m8)) (hm2 rfl (hm1 rfl m6)) iLa iSe iCa iBo (by omega) (by omega) hse9 (by simp [zla]) (by simp [zla])
    (last_top c (by omega)) (range_map_getD (by omega)) ?_ (fun tl3 ps3 h3 tk3 f3 vS3 kS3 F3 N3 iSe3 hT3 lt3 off4 mt3 mb3 => ?_)
  · repeat (first | exact sub_id | exact sub_n | refine sub_c (by repeat (first | exact .head _ | assumption | exact List.mem_append_left _ (by assumption) | refine .tail _ ?_ | refine List.mem_append_right _ ?_)) ?_ | refine sub_t ?_ | exact sub_l sub_id | exact sub_r sub_id | refine sub_o ?_ ?_ | refine sub_r ?_)
  · intro p hp
    simp only [List.mem_cons, List.mem_append] at hp
    rcases hp with hp | hp | rfl | rfl | rfl | hp
    · exact .inl (by repeat (first | exact .head _ | assumption | exact List.mem_append_left _ (by assumption) | refine .tail _ ?_ | refine List.mem_append_right _ ?_))
    · exact .inl (by repeat (first | exact .head _ | assumption | exact List.mem_append_left _ (by assumption) | refine .tail _ ?_ | refine List.mem_append_right _ ?_))
    · exact .inr notCode_list
    · exact .inl (by repeat (first | exact .head _ | assumption | exact List.mem_append_left _ (by assumption) | refine .tail _ ?_ | refine List.mem_append_right _ ?_))
    · exact .inl (by repeat (first | exact .head _ | assumption | exact List.mem_append_left _ (by assumption) | refine .tail _ ?_ | refine List.mem_append_right _ ?_))
    · exact .inl (List.mem_append_right _ (List.mem_append_right _ (.tail _ (.tail _ (List.mem_append.mpr hp)))))
  · rw [range_map_getD (by omega), hla]
    exact borrow_top c hcn
  have hm3 : ∀ {x : Str} {v : Option Value}, [Str.ofString "last", Str.ofString "top", Str.ofString "borrow"].contains x = false → f2 x = v → f3 x = v := fun hx e => off4.get hx e
  have mem3 : ∀ (p : Addr × Obj), p ∈ (L + 1 + 1 + 1 + 1, oC) :: (I, obj) :: (tl ++ fixed) → p ∈ tl2 ++ (tl1 ++ (L + 1 + 1 + 1 + 1, oC) :: (I, obj) :: (tl ++ fixed)) := fun p hp => List.mem_append_right _ (List.mem_append_right _ hp)
  have n3 : ∀ p ∈ tl3, @LT.lt Nat _ 100 p.1 ∧ @LT.lt Nat _ lSe p.1 ∧ @LT.lt Nat _ (L + 1 + 1 + 1 + 1) p.1 ∧ @LT.lt Nat _ I p.1 := fun p hp =>
    ⟨(lt3 p hp).1, (lt3 p hp).2.1, get2 (lt3 p hp).2.2 (mem3 _ (.head _)), get2 (lt3 p hp).2.2 (mem3 _ (.tail _ (.head _)))⟩
  obtain ⟨ty, mb3⟩ := mb3
  have inF4 : ∀ p ∈ fixed, p ∈ (100, tabObj ps3) :: (tl3 ++ (tl2 ++ (tl1 ++ (L + 1 + 1 + 1 + 1, oC) :: (I, obj) :: (tl ++ fixed)))) := sub_t (sub_r inF)
  have hbo : borrowAt ls rs c = if topAt la c < 0 then 1 else 0 := by rw [hla]; exact borrow_top c hcn
  have g3 : ∀ {x : Str} {v : Option Value}, [Str.ofString "last", Str.ofString "top", Str.ofString "borrow"].contains x = false → [Str.ofString "near", Str.ofString "ended", Str.ofString "found"].contains x = false → [Str.ofString "told", Str.ofString "carry"].contains x = false → m x = v → f3 x = v := fun a b' c' e => hm3 a (hm2 b' (hm1 c' e))
  refine turn4 (news := (100, tabObj ps3) :: (tl3 ++ (tl2 ++ (tl1 ++ (L + 1 + 1 + 1 + 1, oC) :: (I, obj) :: (tl ++ fixed))))) (c := c) (n := n) (su := su) (la := la) (x := carryAt ls rs b c) (y := if topAt la c < 0 then 1 else 0) (kSe := kS3) B F3 X (kst_newsOf N3 ?_) T ?_ (inF4 _ hS2) (inF4 _ hS1) (inF4 _ hS7) (inF4 _ hS5)
    (.tail _ (List.mem_append_right _ (mem3 _ (.head _)))) dC (inF4 _ hB) dB (g3 rfl rfl rfl m11) (g3 rfl rfl rfl m12) (g3 rfl rfl rfl m13) (g3 rfl rfl rfl m3) (g3 rfl rfl rfl m4) (g3 rfl rfl rfl m9) (g3 rfl rfl rfl m7) (g3 rfl rfl rfl m10) (hm3 rfl (hm2 rfl mc1)) mb3 iSu iLa iTo iRe iSe3 hcn hn9 zsu zla (by simp) (by simp) (by simp only [List.length_append, List.length_cons, List.length_nil]; omega) hb hb' ?_ ?_ ?_ ?_
    (fun h4 tk4 f4 vS4 kS4 sn4 F4 N4 iSe4 ln4 off5 => ?_)
  · repeat (first | exact sub_id | exact sub_n | refine sub_c (by repeat (first | exact .head _ | assumption | exact List.mem_append_left _ (by assumption) | refine .tail _ ?_ | refine List.mem_append_right _ ?_)) ?_ | refine sub_t ?_ | exact sub_l sub_id | exact sub_r sub_id | refine sub_o ?_ ?_ | refine sub_r ?_)
  · intro p hp
    rcases List.mem_cons.mp hp with rfl | hp
    · exact Nat.ne_of_lt hse
    · rcases List.mem_append.mp hp with hp | hp
      · exact Nat.ne_of_gt (n3 p hp).2.1
      · exact (off3 p hp).1
  · intro hlt
    rw [range_map_getD hlt]; exact sum_mod hb c hlt
  · intro hlt
    rw [range_map_getD hlt, hsu, range_map_getD hlt]; rfl
  · intro hlt
    rw [range_map_getD hlt]; exact lack_mod hb hld hrd c hlt
  · intro hlt
    rw [← hbo, hla, range_map_getD hlt, range_map_getD hlt, Int.sub_eq_add_neg]; exact lack_fig hb hld hrd c
  have hm4 : ∀ {x : Str} {v : Option Value}, [Str.ofString "power", Str.ofString "added", Str.ofString "taken"].contains x = false → f3 x = v → f4 x = v := fun hx e => off5.get hx e
  obtain ⟨tt, mt3⟩ := mt3
  refine h ps3 vS4 kS4 sn4 (tl3 ++ (tl2 ++ (tl1 ++ tl))) _ _ f4 F4 (kst_newsOf N4 ?_) iSe4 ?_ (hT3.only2 ?_) ?_ ?_ ((off1.wide (by decide)).seq ((off2.wide (by decide)).seq ((off4.wide (by decide)).seq (off5.wide (by decide))))) ⟨tt, hm4 rfl mt3⟩
  · repeat (first | exact sub_id | exact sub_n | refine sub_c (by repeat (first | exact .head _ | assumption | exact List.mem_append_left _ (by assumption) | refine .tail _ ?_ | refine List.mem_append_right _ ?_)) ?_ | refine sub_t ?_ | exact sub_l sub_id | exact sub_r sub_id | refine sub_o ?_ ?_ | refine sub_r ?_)
  · simp only [List.length_append, List.length_cons, List.length_nil] at ln4; omega
  · intro p hp
    simp only [List.mem_cons, List.mem_append] at hp
    rcases hp with hp | hp | hp | rfl | rfl | hp | hp
    · exact .inl (List.mem_append_left _ (List.mem_append_left _ hp))
    · exact .inl (List.mem_append_left _ (List.mem_append_right _ (List.mem_append_left _ hp)))
    · exact .inl (List.mem_append_left _ (List.mem_append_right _ (List.mem_append_right _ (List.mem_append_left _ hp))))
    · exact .inr (notCode_cell dC)
    · exact .inr hobj
    · exact .inl (List.mem_append_left _ (List.mem_append_right _ (List.mem_append_right _ (List.mem_append_right _ hp))))
    · exact .inl (List.mem_append_right _ hp)
  · intro p hp
    simp only [List.mem_append] at hp
    rcases hp with ((hp | hp | hp | hp) | hp)
    · exact ⟨Nat.ne_of_gt (n3 p hp).1, Nat.ne_of_gt (n3 p hp).2.1, Nat.ne_of_gt (n3 p hp).2.2.1⟩
    · exact ⟨Nat.ne_of_gt (n2 p hp).1, Nat.ne_of_gt (n2 p hp).2.1, Nat.ne_of_gt (n2 p hp).2.2.1⟩
    · exact ⟨Nat.ne_of_gt (n1 p hp).1, Nat.ne_of_gt (n1 p hp).2.1, Nat.ne_of_gt (n1 p hp).2.2.1⟩
    · exact hfix p (List.mem_append_left _ hp)
    · exact hfix p (List.mem_append_right _ hp)
  · intro p hp
    simp only [List.mem_append] at hp
    rcases hp with ((hp | hp | hp | hp) | hp)
    · exact Nat.ne_of_gt (n3 p hp).2.2.2
    · exact Nat.ne_of_gt (n2 p hp).2.2.2
    · exact Nat.ne_of_gt (n1 p hp).2.2.2
    · exact nI p (List.mem_append_left _ hp)
    · exact nI p (List.mem_append_right _ hp)
end
end Mine
end -- T5

section -- T7
open PySem PySem.W PyProof.Rows
set_option maxRecDepth 100000
set_option maxHeartbeats 1200000
namespace Mine
noncomputable def loopStmt : Stmt := lawParts.2.1.getD 18 (.Pass ⟨0, 0, 0, 0⟩)
noncomputable def loopPx : Pos := match loopStmt with
  | .For (.Name _ px) _ _ _ _ => px
  | _ => ⟨0, 0, 0, 0⟩
noncomputable def loopPos : Pos := match loopStmt with
  | .For _ _ _ _ pos => pos
  | _ => ⟨0, 0, 0, 0⟩
noncomputable def loopIter : Expr := match loopStmt with
  | .For _ it _ _ _ => it
  | _ => .Name (Str.ofString "x") ⟨0, 0, 0, 0⟩
theorem loop_eq : (lawRest 18).take 1 = [Stmt.For (.Name (Str.ofString "col") loopPx) loopIter turnBody [] loopPos] := by kernel_rfl
section
variable {w : World} {p : Program} {loose : List Str} {mean : ExcName → Option Value} {mg mb : Str → Option Value} {h₀ : Heap} {L fa : Addr} {cd : Value} {s : Shared} {E : Value → Shared → Prop} {m : Str → Option Value} {news : List (Addr × Obj)}
section
theorem loop_iter {n : Nat} {tn : Tok} {Q : Value → Shared → Prop}
    (B : Below callerA h₀ [] h₀) (F : Fr h₀ L s.heap m) (X : (hd.heap_39 w.params).In h₀) (N : News h₀ L s.heap news) (T : Top p loose mean mg mb h₀)
    (m1 : m (Str.ofString "size") = some (.int (n : Int) tn)) (hn9 : n ≤ 9)
    (h : ∀ r h' tk' t u v, Fr h₀ L h' m → News h₀ L h' news → IsRange h' r 0 ((n : Int) + 1) 1 t u v → Q (.ref r) { s with heap := h', toks := tk' }) :
    wpAny (model PR w) (callerA.deeper (envOfC (Str.ofString "law") lawParts.2.2 L fa cd)) (eval loopIter (envOfC (Str.ofString "law") lawParts.2.2 L fa cd)) Q E s := by
  k_with_none
  w_top off
  k_with "pyIter ref" => refine Stop.out ?_
  revert X; unfold PR at *; k_fill; intro X
  conv =>
    pattern (occs := *) loopIter
    all_goals whnf
  conv =>
    pattern (occs := *) lawParts
    all_goals whnf
  have F1 := fr_as F [(Str.ofString "size", .int (n : Int) tn)] (fr_c m1 fr_n)
  dsimp only [kstB] at F1
  clear F
  try k_fold
  k_steps
  rename_i rg FR NR _
  refine h _ _ _ _ _ _ ?_ NR rg
  have e : (fun z => if z = Str.ofString "size" then some (Value.int (n : Int) tn) else m z) = m := by
    funext z
    split
    · rename_i q
      rw [q, m1]
    · rfl
  rw [← e]; exact FR
end
noncomputable def LoopJ (fixed : List (Addr × Obj)) (lSe c : Addr) (la : List Int) (k0 : Nat) (m₀ : Str → Option Value) (i : Nat) (m : Str → Option Value) (nw : List (Addr × Obj)) : Prop :=
  ∃ ps vSe kSe sn tl, nw = (100, tabObj ps) :: (lSe, W.listOf (List.toArray vSe) kSe) :: (tl ++ fixed) ∧ IntsAre vSe sn ∧ sn.length ≤ k0 + 5 * i ∧ HitTab (tl ++ fixed) ps ∧ (∀ p ∈ tl ++ fixed, @Ne Nat p.1 100 ∧ @Ne Nat p.1 lSe ∧ @Ne Nat p.1 c) ∧ Off turnNames m₀ m ∧
    ∀ j, i = j + 1 → ∃ t, m (Str.ofString "top") = some (.int (topAt la j) t)
theorem law_loop {lSe lLa lSu lSt lBo lRe lCa lTo qC qU : Addr} {vSe vLa vSu vSt vBo vRe vCa vTo : List Value} {kSe kLa kSu kSt kBo kRe kCa kTo n : Nat} {ls rs sn su la : List Int} {b : Int} {tb tn tw tk : Tok} {oB c4 : Obj} {w4 : Option Value} {fixed : List (Addr × Obj)} {ps : Array Value} {Q : Flow → Shared → Prop}
    (B : Below callerA h₀ [] h₀) (F : Fr h₀ L s.heap m) (X : (hd.heap_39 w.params).In h₀) (N : News h₀ L s.heap ((L + 1 + 1 + 1 + 1, c4) :: (100, tabObj ps) :: (lSe, W.listOf vSe.toArray kSe) :: fixed)) (T : Top p loose mean mg mb h₀) (hC : CodeHd h₀ 104 100) (d4 : c4.data = .cell w4)
    (hfix : ∀ p ∈ fixed, @Ne Nat p.1 100 ∧ @Ne Nat p.1 lSe ∧ @Ne Nat p.1 (L + 1 + 1 + 1 + 1)) (hse : @LT.lt Nat _ 100 lSe) (hsc : @Ne Nat lSe (L + 1 + 1 + 1 + 1)) (h1c : @LT.lt Nat _ 100 L)
    (hT : HitTab fixed ps) (hqC : ChainIn fixed qC (b - 1)) (hqU : UnlikeIn fixed qU)
    (hS1 : (lLa, W.listOf vLa.toArray kLa) ∈ fixed) (hS2 : (lSu, W.listOf vSu.toArray kSu) ∈ fixed) (hS3 : (lSt, W.listOf vSt.toArray kSt) ∈ fixed) (hS4 : (lBo, W.listOf vBo.toArray kBo) ∈ fixed) (hS5 : (lRe, W.listOf vRe.toArray kRe) ∈ fixed) (hS6 : (lCa, W.listOf vCa.toArray kCa) ∈ fixed) (hS7 : (lTo, W.listOf vTo.toArray kTo) ∈ fixed)
    (hB : (L + 1, oB) ∈ fixed) (dB : oB.data = .cell (some (.int b tb))) (hP : Pairs fixed vSt (stretchesOf ls rs b))
    (m1 : m (Str.ofString "chains") = some (.ref qC)) (m2 : m (Str.ofString "unlike") = some (.ref qU)) (m3 : m (Str.ofString "sums") = some (.ref lSu)) (m4 : m (Str.ofString "lacks") = some (.ref lLa)) (m5 : m (Str.ofString "stretches") = some (.ref lSt)) (m6 : m (Str.ofString "borrows") = some (.ref lBo)) (m7 : m (Str.ofString "remnant") = some (.ref lRe)) (m8 : m (Str.ofString "carries") = some (.ref lCa)) (m9 : m (Str.ofString "total") = some (.ref lTo)) (m10 : m (Str.ofString "seen") = some (.ref lSe))
    (m11 : m (Str.ofString "size") = some (.int (n : Int) tn)) (m12 : m (Str.ofString "whole") = some (.int (worthTo ls b n + worthTo rs b n) tw)) (m13 : m (Str.ofString "lack") = some (.int (worthTo ls b n - worthTo rs b n) tk))
    (hsu : su = (List.range n).map (fun k => ls.getD k 0 + rs.getD k 0)) (hla : la = (List.range n).map (fun k => ls.getD k 0 - rs.getD k 0))
    (iSu : IntsAre vSu su) (iLa : IntsAre vLa la) (iSe : IntsAre vSe sn)
    (iTo : IntsAre vTo ((List.range n).map (totalAt ls rs b))) (iCa : IntsAre vCa ((List.range (n + 1)).map (carryAt ls rs b))) (iRe : IntsAre vRe ((List.range n).map (remnantAt ls rs b))) (iBo : IntsAre vBo ((List.range (n + 1)).map (borrowAt ls rs)))
    (hn9 : n ≤ 9) (hll : ls.length = n) (hrl : rs.length = n) (hse9 : sn.length ≤ 50)
    (hb : 2 ≤ b) (hb' : b ≤ 10) (hld : ∀ k, 0 ≤ ls.getD k 0 ∧ ls.getD k 0 < b) (hrd : ∀ k, 0 ≤ rs.getD k 0 ∧ rs.getD k 0 < b)
    (hpass : PassesOwn (model PR w) (callerA.deeper (envOfC (Str.ofString "law") lawParts.2.2 L fa cd)) (envOfC (Str.ofString "law") lawParts.2.2 L fa cd) E)
    (h : ∀ ps' vSe' kSe' sn' tl' h' tk' m', Fr h₀ L h' m' → News h₀ L h' ((100, tabObj ps') :: (lSe, W.listOf (List.toArray vSe') kSe') :: (tl' ++ fixed)) → IntsAre vSe' sn' → sn'.length ≤ 100 → Off turnNames m m' → (∃ t, m' (Str.ofString "top") = some (.int (topAt la n) t)) → Q .next { s with heap := h', toks := tk' }) :
    wpAny (model PR w) (callerA.deeper (envOfC (Str.ofString "law") lawParts.2.2 L fa cd)) (execs ((lawRest 18).take 1) (envOfC (Str.ofString "law") lawParts.2.2 L fa cd)) Q E s := by
  rw [loop_eq]
  refine wpAny_execs_cons (for_cell (loop_iter B F X N T m11 hn9 (fun r h1 tk1 t u v F1 N1 rg => ?_)))
  refine cell_range (cl := cellsFrom (L + 1) lawParts.2.2.names []) (n := n + 1) (LoopJ fixed lSe (L + 1 + 1 + 1 + 1) la sn.length m) rfl rg (small_one (by omega) (by omega) (by omega) (by omega)) ?_ F1 N1 d4 ?_ ?_ ⟨ps, vSe, kSe, sn, [], rfl, iSe, by omega, hT, hfix, off_refl, fun j e => by omega⟩ ?_ ?_ hpass ?_ ?_ ?_
  · show Builtin.Range.rangeSize 0 (((n + 1 : Nat)) : Int) 1 = _
    rw [rangeSize_nat, Int.sub_zero, Int.toNat_natCast]
  · kernel_rfl
  · intro p hp
    rcases List.mem_cons.mp hp with rfl | hp
    · show @Ne Nat _ _; omega
    · rcases List.mem_cons.mp hp with rfl | hp
      · exact hsc
      · exact (hfix p hp).2.2
  · kernel_rfl
  · kernel_rfl
  · rintro i m' nw ⟨ps', vSe', kSe', sn', tl', rfl, _, _, _, hf', _, _⟩ p hp
    rcases List.mem_cons.mp hp with rfl | hp
    · show @Ne Nat _ _; omega
    · rcases List.mem_cons.mp hp with rfl | hp
      · exact hsc
      · exact (hf' p hp).2.2
  · rintro i t' m' nw o h2 tk2 I obj hi hd2 ⟨ps', vSe', kSe', sn', tl', rfl, iSe', ln', hT', hf', off', _⟩ hI hIc hobj F2 N2
    rw [Int.zero_add] at hd2
    have g : ∀ {x : Str} {v : Option Value}, turnNames.contains x = false → m x = v → m' x = v := fun hx e => off'.get hx e
    refine turn_all (I := I) (obj := obj) (c := i) (lSe := lSe) (tl := tl') (fixed := fixed) (la := la) (su := su) B F2 X N2 T hC hf' hI hIc hse hsc h1c hd2 hobj hT' hqC hqU hS1 hS2 hS3 hS4 hS5 hS6 hS7 hB dB hP (g rfl m1) (g rfl m2) (g rfl m3) (g rfl m4) (g rfl m5) (g rfl m6) (g rfl m7) (g rfl m8) (g rfl m9) (g rfl m10) (g rfl m11) (g rfl m12) (g rfl m13) hsu hla iSu iLa iSe' iTo iCa iRe iBo (by omega) hn9 hll hrl (by omega) hb hb' hld hrd
      (fun ps3 vSe3 kSe3 sn3 tl3 h3 tk3 m3 F3 N3 iSe3 ln3 hT3 hf3 hI3 off3 mt3 => ?_)
    refine ⟨h3, tk3, m3, (100, tabObj ps3) :: (lSe, W.listOf (List.toArray vSe3) kSe3) :: (tl3 ++ fixed), o, _, rfl, F3, N3, hd2, ?_, ps3, vSe3, kSe3, sn3, tl3, rfl, iSe3, by omega, hT3, hf3, off'.seq off3, fun j e => ?_⟩
    · intro p hp
      rcases List.mem_cons.mp hp with rfl | hp
      · exact hI (100, tabObj ps') (.head _)
      · rcases List.mem_cons.mp hp with rfl | hp
        · exact hI (lSe, W.listOf (List.toArray vSe') kSe') (.tail _ (.head _))
        · exact hI3 p hp
    · cases e; exact mt3
  · rintro m' nw o w' h2 tk2 hd2 ⟨ps', vSe', kSe', sn', tl', rfl, iSe', ln', hT', hf', off', mt'⟩ F2 N2
    refine wpAny_execs_nil ?_
    exact h ps' vSe' kSe' sn' tl' h2 tk2 m' F2 (kst_newsOf N2 (sub_t sub_id)) iSe' (by omega) off' (mt' n rfl)
end
end Mine
end -- T7

section -- T8
open PySem PySem.W PyProof.Rows
set_option maxRecDepth 100000
set_option maxHeartbeats 2000000
namespace Mine
section
variable {w : World} {p : Program} {loose : List Str} {mean : ExcName → Option Value} {mg mb : Str → Option Value} {h₀ : Heap} {L fa : Addr} {cd : Value} {s : Shared} {Q : Flow → Shared → Prop} {E : Value → Shared → Prop} {u : Str → Option Value}
theorem law_mid {lLa lSu : Addr} {vLa vSu : List Value} {kLa kSu : Nat} {su la : List Int} {b x y : Int} {tb tx ty : Tok} {oB c4 : Obj} {w4 : Option Value} {news : List (Addr × Obj)} {m : Str → Option Value}
    (B : Below callerA h₀ [] h₀) (F : Fr h₀ L s.heap m) (X : (hd.heap_39 w.params).In h₀)
    (N : News h₀ L s.heap ((L + 1 + 1 + 1 + 1, c4) :: (114, tabObj #[]) :: (107, tabObj #[]) :: (100, tabObj #[]) :: news))
    (T : Top p loose mean mg mb h₀) (hC1 : CodeHd h₀ 118 114) (hC3 : CodeHd h₀ 111 107) (dB : oB.data = .cell (some (.int b tb)))
    (hS1 : (lLa, W.listOf vLa.toArray kLa) ∈ news) (hS2 : (lSu, W.listOf vSu.toArray kSu) ∈ news) (hB : (L + 1, oB) ∈ news)
    (hl : @LT.lt Nat _ 114 L ∧ @LT.lt Nat _ 100 L ∧ @LT.lt Nat _ 107 L)
    (hoff : ∀ p ∈ news, @Ne Nat p.1 100 ∧ @Ne Nat p.1 107 ∧ @Ne Nat p.1 114 ∧ @Ne Nat p.1 (L + 1 + 1 + 1 + 1))
    (iSu : IntsAre vSu su) (iLa : IntsAre vLa la) (zsu : su.length ≤ 9) (zla : la.length ≤ 9)
    (mS : m (Str.ofString "sums") = some (.ref lSu)) (mL : m (Str.ofString "lacks") = some (.ref lLa)) (mA : m (Str.ofString "a") = some (.int x tx)) (mB : m (Str.ofString "b") = some (.int y ty))
    (h : ∀ lSe vSe qC qU psU psC tlU tlC tw tk h' tk' m', Fr h₀ L h' m' → News h₀ L h' ((lSe, W.listOf (List.toArray vSe) 0) :: (L + 1 + 1 + 1 + 1, c4) :: (114, tabObj psU) :: (107, tabObj psC) :: (100, tabObj #[]) :: (tlU ++ (tlC ++ news))) → IntsAre vSe (su ++ la ++ [x + y, x - y]) →
      (∀ p ∈ (114, tabObj psU) :: (107, tabObj psC) :: (tlU ++ (tlC ++ news)), @Ne Nat p.1 100 ∧ @Ne Nat p.1 lSe ∧ @Ne Nat p.1 (L + 1 + 1 + 1 + 1)) → @LT.lt Nat _ 100 lSe → @Ne Nat lSe (L + 1 + 1 + 1 + 1) → ChainIn tlC qC (b - 1) → UnlikeIn tlU qU →
      Off [Str.ofString "chains", Str.ofString "unlike", Str.ofString "whole", Str.ofString "lack", Str.ofString "seen"] m m' →
      (m' (Str.ofString "chains") = some (.ref qC) ∧ m' (Str.ofString "unlike") = some (.ref qU) ∧ m' (Str.ofString "seen") = some (.ref lSe) ∧ m' (Str.ofString "whole") = some (.int (x + y) tw) ∧ m' (Str.ofString "lack") = some (.int (x - y) tk)) →
      Q .next { s with heap := h', toks := tk' }) :
    wpAny (model PR w) (callerA.deeper (envOfC (Str.ofString "law") lawParts.2.2 L fa cd)) (execs ((lawRest 13).take 5) (envOfC (Str.ofString "law") lawParts.2.2 L fa cd)) Q E s := by
  k_with_none
  w_top off
  k_with "call ref cons nil" => first | (k_here; (with_reducible show wpAny _ _ (call (Value.ref _) [_, _]) _ _ _); k_dflt ((first | refine' getitem_op ?zqB ?zqF ?zqX ?zqN ?zqT ?zqk ?zqd ?zqu ?zqm ?zqi ?zqg ?zql ?zqn ?_ | refine' floordiv_op ?zqB ?zqF ?zqX ?zqN ?zqT ?zqk ?zqd ?zqu ?zqy ?zqp ?_ | refine' mod_op ?zqB ?zqF ?zqX ?zqN ?zqT ?zqk ?zqd ?zqu ?zqy ?_ | refine' add_op ?zqB ?zqF ?zqX ?zqN ?zqT ?zqk ?zqd ?zqu ?_ | refine' sub_op ?zqB ?zqF ?zqX ?zqN ?zqT ?zqk ?zqd ?zqu ?_ | refine' lt_op ?zqB ?zqF ?zqX ?zqN ?zqT ?zqk ?zqd ?zqu ?_ | refine' le_op ?zqB ?zqF ?zqX ?zqN ?zqT ?zqk ?zqd ?zqu ?_ | refine' eq_op ?zqB ?zqF ?zqX ?zqN ?zqT ?zqk ?zqd ?zqu ?_ | refine' ne_op ?zqB ?zqF ?zqX ?zqN ?zqT ?zqk ?zqd ?zqu ?_ | refine' ge_op ?zqB ?zqF ?zqX ?zqN ?zqT ?zqk ?zqd ?zqu ?_ | refine' gt_op ?zqB ?zqF ?zqX ?zqN ?zqT ?zqk ?zqd ?zqu ?_); (case zqB => k_asm); (case zqF => k_asm); (case zqX => k_asm); (case zqN => k_asm); (case zqT => k_asm); (case zqk => exact rfl); (case zqd => first | decide | omega); (case zqu => first | decide | omega); (try (case zqy => first | assumption | omega)); (try (case zqp => assumption)); (try (case zqm => k_mem)); (try (case zqi => assumption)); (try (case zqg => omega)); (try (case zql => omega)); (try (case zqn => omega)); k_whole); intros; (try dsimp only)) | refine Stop.out ?_
  k_with "call ref nil nil" => refine Stop.out ?_
  k_with "call ref nil" => refine Stop.out ?_
  revert X; unfold PR at *; k_fill; intro X
  unfold lawRest at *
  conv =>
    pattern (occs := *) lawParts
    all_goals whnf
  dsimp only [List.drop, List.take]
  have F1 := fr_as F [(Str.ofString "sums", .ref lSu), (Str.ofString "lacks", .ref lLa), (Str.ofString "a", .int x tx), (Str.ofString "b", .int y ty)] (fr_c mS (fr_c mL (fr_c mA (fr_c mB fr_n))))
  dsimp only [kstB] at F1
  have zSu := iSu.length
  have zLa := iLa.length
  replace N := kst_newsOf N (sub_c (a := (L + 1, oB)) (.tail _ (.tail _ (.tail _ (.tail _ hB)))) sub_id)
  clear F
  try k_fold
  k_steps
  refine Stop.of ?_
  refine chains_spec (news := (L + 1 + 1 + 1 + 1, c4) :: (114, tabObj #[]) :: (100, tabObj #[]) :: news) B F1 X (kst_newsOf N ?_) T hC3 ?_ rfl (by decide) (by decide) (fun qC tlC psC g1 tk1 F2 N2 hCh hlC => ?_)
  · repeat (first | exact sub_id | exact sub_n | refine sub_c (by repeat (first | exact .head _ | assumption | exact List.mem_append_left _ (by assumption) | refine .tail _ ?_ | refine List.mem_append_right _ ?_)) ?_ | refine sub_t ?_ | exact sub_l sub_id | exact sub_r sub_id | refine sub_o ?_ ?_ | refine sub_r ?_)
  · intro p hp
    simp only [List.mem_cons] at hp
    rcases hp with e | e | e | e
    · subst e; show @Ne Nat _ _; omega
    · subst e; show @Ne Nat _ _; omega
    · subst e; show @Ne Nat _ _; omega
    · exact (hoff p e).2.1
  clear F1 N
  k_steps
  rename_i F3 N3
  refine Stop.of ?_
  refine unlike_spec (news := (L + 1 + 1 + 1 + 1, c4) :: (107, tabObj psC) :: (100, tabObj #[]) :: (tlC ++ news)) B F3 X (kst_newsOf N3 ?_) T hC1 ?_ rfl (by decide) (by decide) (fun qU tlU psU g2 tk2 F4 N4 hUn hlU => ?_)
  · repeat (first | exact sub_id | exact sub_n | refine sub_c (by repeat (first | exact .head _ | assumption | exact List.mem_append_left _ (by assumption) | refine .tail _ ?_ | refine List.mem_append_right _ ?_)) ?_ | refine sub_t ?_ | exact sub_l sub_id | exact sub_r sub_id | refine sub_o ?_ ?_ | refine sub_r ?_)
  · intro p hp
    simp only [List.mem_cons, List.mem_append] at hp
    rcases hp with e | e | e | e | e
    · subst e; show @Ne Nat _ _; omega
    · subst e; show @Ne Nat _ _; omega
    · subst e; show @Ne Nat _ _; omega
    · have q2 := hlC p e
      simp only [AllLt] at q2
      show @Ne Nat _ _
      omega
    · exact (hoff p e).2.2.1
  replace N4 : News h₀ L g2 ((lLa, W.listOf vLa.toArray kLa) :: (lSu, W.listOf vSu.toArray kSu) :: (L + 1 + 1 + 1 + 1, c4) :: (114, tabObj psU) :: (107, tabObj psC) :: (100, tabObj #[]) :: (tlU ++ (tlC ++ news))) := kst_newsOf N4 (by repeat (first | exact sub_id | exact sub_n | refine sub_c (by repeat (first | exact .head _ | assumption | exact List.mem_append_left _ (by assumption) | refine .tail _ ?_ | refine List.mem_append_right _ ?_)) ?_ | refine sub_t ?_ | exact sub_l sub_id | exact sub_r sub_id | refine sub_o ?_ ?_ | refine sub_r ?_))
  clear N3 F3
  k_steps
  rename_i D9 ws9 h9 iW9 l9 h10 F9 N9
  have l9' : @LT.lt Nat _ (L + 1 + 1 + 1 + 1) D9 ∧ @LT.lt Nat _ 114 D9 ∧ @LT.lt Nat _ 107 D9 ∧ @LT.lt Nat _ 100 D9 ∧ AllLt D9 (tlU ++ (tlC ++ news)) := l9.2.2.2.2
  refine h D9 ws9 qC qU psU psC tlU tlC _ _ _ _ _ F9 (kst_newsOf N9 ?_) iW9 ?_ l9'.2.2.2.1 (Nat.ne_of_gt l9'.1) hCh hUn ?_ ⟨rfl, rfl, rfl, rfl, rfl⟩
  · exact sub_c (.head _) (sub_t (sub_t (sub_t (sub_t (sub_t sub_id)))))
  · intro p hp
    simp only [List.mem_cons, List.mem_append] at hp
    rcases hp with e | e | e | e | e
    · subst e; refine ⟨?_, ?_, ?_⟩ <;> (show @Ne Nat _ _; omega)
    · subst e; refine ⟨?_, ?_, ?_⟩ <;> (show @Ne Nat _ _; omega)
    · have q2 := hlU p e
      simp only [AllLt] at q2
      have q3 := kst_ltOf l9'.2.2.2.2 p (by simp only [List.mem_append, e, true_or, or_true])
      refine ⟨?_, Nat.ne_of_lt q3, ?_⟩ <;> omega
    · have q2 := hlC p e
      simp only [AllLt] at q2
      have q3 := kst_ltOf l9'.2.2.2.2 p (by simp only [List.mem_append, e, true_or, or_true])
      refine ⟨?_, Nat.ne_of_lt q3, ?_⟩ <;> omega
    · have q := hoff p e
      have q3 := kst_ltOf l9'.2.2.2.2 p (by simp only [List.mem_append, e, true_or, or_true])
      exact ⟨q.1, Nat.ne_of_lt q3, q.2.2.2⟩
  · repeat (first | exact off_refl | refine off_if rfl ?_ | refine off_same (by assumption) ?_)
theorem law_parts : lawRest 13 = (lawRest 13).take 5 ++ ((lawRest 18).take 1 ++ lawRest 19) := by kernel_rfl
theorem law_S {lLa lSu lSt lBo lRe lCa lTo : Addr} {vLa vSu vSt vBo vRe vCa vTo : List Value} {kLa kSu kSt kBo kRe kCa kTo n : Nat} {ls rs : List Int} {b : Int} {tb ta tbb tn : Tok} {oB c4 : Obj} {w4 : Option Value} {tl : List (Addr × Obj)}
    (B : Below callerA h₀ [] h₀) (F : Fr h₀ L s.heap (fun z => if z = Str.ofString "lacks" then some (.ref lLa) else if z = Str.ofString "sums" then some (.ref lSu) else if z = Str.ofString "stretches" then some (.ref lSt) else if z = Str.ofString "borrows" then some (.ref lBo) else if z = Str.ofString "remnant" then some (.ref lRe) else if z = Str.ofString "carries" then some (.ref lCa) else if z = Str.ofString "total" then some (.ref lTo) else if z = Str.ofString "b" then some (.int (worthTo rs b n) tbb) else if z = Str.ofString "a" then some (.int (worthTo ls b n) ta) else if z = Str.ofString "size" then some (.int (n : Int) tn) else u z)) (X : (hd.heap_39 w.params).In h₀)
    (N : News h₀ L s.heap ((lLa, W.listOf vLa.toArray kLa) :: (lSu, W.listOf vSu.toArray kSu) :: (lSt, W.listOf vSt.toArray kSt) :: (lBo, W.listOf vBo.toArray kBo) :: (lRe, W.listOf vRe.toArray kRe) :: (lCa, W.listOf vCa.toArray kCa) :: (lTo, W.listOf vTo.toArray kTo) :: (L + 1 + 1 + 1 + 1, c4) :: (L + 1, oB) :: (114, tabObj #[]) :: (100, tabObj #[]) :: (107, tabObj #[]) :: tl))
    (T : Top p loose mean mg mb h₀) (hC1 : CodeHd h₀ 118 114) (hC2 : CodeHd h₀ 104 100) (hC3 : CodeHd h₀ 111 107)
    (dB : oB.data = .cell (some (.int b tb))) (d4 : c4.data = .cell w4)
    (hl : @LT.lt Nat _ 114 L ∧ @LT.lt Nat _ 100 L ∧ @LT.lt Nat _ 107 L)
    (hoff : ∀ p ∈ (lLa, W.listOf vLa.toArray kLa) :: (lSu, W.listOf vSu.toArray kSu) :: (lSt, W.listOf vSt.toArray kSt) :: (lBo, W.listOf vBo.toArray kBo) :: (lRe, W.listOf vRe.toArray kRe) :: (lCa, W.listOf vCa.toArray kCa) :: (lTo, W.listOf vTo.toArray kTo) :: (L + 1, oB) :: tl, @Ne Nat p.1 100 ∧ @Ne Nat p.1 107 ∧ @Ne Nat p.1 114 ∧ @Ne Nat p.1 (L + 1 + 1 + 1 + 1))
    (iSu : IntsAre vSu ((List.range n).map (fun k => ls.getD k 0 + rs.getD k 0))) (iLa : IntsAre vLa ((List.range n).map (fun k => ls.getD k 0 - rs.getD k 0)))
    (iTo : IntsAre vTo ((List.range n).map (totalAt ls rs b))) (iCa : IntsAre vCa ((List.range (n + 1)).map (carryAt ls rs b))) (iRe : IntsAre vRe ((List.range n).map (remnantAt ls rs b))) (iBo : IntsAre vBo ((List.range (n + 1)).map (borrowAt ls rs)))
    (hSt : Pairs tl vSt (stretchesOf ls rs b)) (hn9 : n ≤ 9) (hn3 : 3 ≤ n) (hll : ls.length = n) (hrl : rs.length = n)
    (hb : 2 ≤ b) (hb' : b ≤ 10) (hld : ∀ x ∈ ls, 0 ≤ x ∧ x < b) (hrd : ∀ x ∈ rs, 0 ≤ x ∧ x < b)
    (hpass : PassesOwn (model PR w) (callerA.deeper (envOfC (Str.ofString "law") lawParts.2.2 L fa cd)) (envOfC (Str.ofString "law") lawParts.2.2 L fa cd) E)
    (h : ∀ h' tk' m' ps1 ps2 ps3, Fr h₀ L h' m' → News h₀ L h' [(100, tabObj ps1), (107, tabObj ps2), (114, tabObj ps3)] → Q (.ret (.bool true)) { s with heap := h', toks := tk' }) :
    wpAny (model PR w) (callerA.deeper (envOfC (Str.ofString "law") lawParts.2.2 L fa cd)) (execs (lawRest 13) (envOfC (Str.ofString "law") lawParts.2.2 L fa cd)) Q E s := by
  rw [law_parts]
  have hd1 := dig hb hld
  have hd2 := dig hb hrd
  obtain ⟨news, hnw⟩ : ∃ news : List (Addr × Obj), news = (lLa, W.listOf vLa.toArray kLa) :: (lSu, W.listOf vSu.toArray kSu) :: (lSt, W.listOf vSt.toArray kSt) :: (lBo, W.listOf vBo.toArray kBo) :: (lRe, W.listOf vRe.toArray kRe) :: (lCa, W.listOf vCa.toArray kCa) :: (lTo, W.listOf vTo.toArray kTo) :: (L + 1, oB) :: tl := ⟨_, rfl⟩
  rw [← hnw] at hoff
  refine execs_app (law_mid (news := news) (lLa := lLa) (vLa := vLa) (kLa := kLa) (lSu := lSu) (vSu := vSu) (kSu := kSu) (oB := oB) (c4 := c4) B F X (kst_newsOf N ?_) T hC1 hC3 dB (by rw [hnw]; repeat (first | exact .head _ | assumption | exact List.mem_append_left _ (by assumption) | refine .tail _ ?_ | refine List.mem_append_right _ ?_)) (by rw [hnw]; repeat (first | exact .head _ | assumption | exact List.mem_append_left _ (by assumption) | refine .tail _ ?_ | refine List.mem_append_right _ ?_)) (by rw [hnw]; repeat (first | exact .head _ | assumption | exact List.mem_append_left _ (by assumption) | refine .tail _ ?_ | refine List.mem_append_right _ ?_)) hl hoff iSu iLa (by simp; omega) (by simp; omega) rfl rfl rfl rfl (w4 := w4) (fun lSe vSe qC qU psU psC tlU tlC tw tk h1 tk1 m1 F1 N1 iSe hfix hse hsc hCh hUn o1 ms => ?_))
  · rw [hnw]; repeat (first | exact sub_id | exact sub_n | refine sub_c (by repeat (first | exact .head _ | assumption | exact List.mem_append_left _ (by assumption) | refine .tail _ ?_ | refine List.mem_append_right _ ?_)) ?_ | refine sub_t ?_ | exact sub_l sub_id | exact sub_r sub_id | refine sub_o ?_ ?_ | refine sub_r ?_)
  obtain ⟨e1, e2, e10, e12, e13⟩ := ms
  show wpAny _ _ (execs ((lawRest 18).take 1 ++ lawRest 19) _) _ _ _
  have inN : ∀ p ∈ news, p ∈ (114, tabObj psU) :: (107, tabObj psC) :: (tlU ++ (tlC ++ news)) := sub_t (sub_t (sub_r (sub_r sub_id)))
  have g1 : ∀ {x : Str} {v : Option Value}, [Str.ofString "chains", Str.ofString "unlike", Str.ofString "whole", Str.ofString "lack", Str.ofString "seen"].contains x = false → _ = v → m1 x = v := fun hx e => o1.get hx e
  refine execs_app (law_loop (lSe := lSe) (kSe := 0) (fixed := (114, tabObj psU) :: (107, tabObj psC) :: (tlU ++ (tlC ++ news))) (la := (List.range n).map (fun k => ls.getD k 0 - rs.getD k 0)) (su := (List.range n).map (fun k => ls.getD k 0 + rs.getD k 0)) (ls := ls) (rs := rs) (n := n) (b := b) B F1 X (kst_newsOf N1 ?_) T hC2 d4 hfix hse hsc hl.2.1 .empty (hCh.mono (sub_t (sub_t (sub_r (sub_l sub_id))))) (hUn.mono (sub_t (sub_t (sub_l sub_id))))
    (lLa := lLa) (vLa := vLa) (kLa := kLa) (lSu := lSu) (vSu := vSu) (kSu := kSu) (lSt := lSt) (vSt := vSt) (kSt := kSt) (lBo := lBo) (vBo := vBo) (kBo := kBo) (lRe := lRe) (vRe := vRe) (kRe := kRe) (lCa := lCa) (vCa := vCa) (kCa := kCa) (lTo := lTo) (vTo := vTo) (kTo := kTo) (oB := oB) (inN _ (by rw [hnw]; repeat (first | exact .head _ | assumption | exact List.mem_append_left _ (by assumption) | refine .tail _ ?_ | refine List.mem_append_right _ ?_))) (inN _ (by rw [hnw]; repeat (first | exact .head _ | assumption | exact List.mem_append_left _ (by assumption) | refine .tail _ ?_ | refine List.mem_append_right _ ?_))) (inN _ (by rw [hnw]; repeat (first | exact .head _ | assumption | exact List.mem_append_left _ (by assumption) | refine .tail _ ?_ | refine List.mem_append_right _ ?_))) (inN _ (by rw [hnw]; repeat (first | exact .head _ | assumption | exact List.mem_append_left _ (by assumption) | refine .tail _ ?_ | refine List.mem_append_right _ ?_))) (inN _ (by rw [hnw]; repeat (first | exact .head _ | assumption | exact List.mem_append_left _ (by assumption) | refine .tail _ ?_ | refine List.mem_append_right _ ?_))) (inN _ (by rw [hnw]; repeat (first | exact .head _ | assumption | exact List.mem_append_left _ (by assumption) | refine .tail _ ?_ | refine List.mem_append_right _ ?_))) (inN _ (by rw [hnw]; repeat (first | exact .head _ | assumption | exact List.mem_append_left _ (by assumption) | refine .tail _ ?_ | refine List.mem_append_right _ ?_))) (inN _ (by rw [hnw]; repeat (first | exact .head _ | assumption | exact List.mem_append_left _ (by assumption) | refine .tail _ ?_ | refine List.mem_append_right _ ?_))) dB (hSt.mono fun p hp => inN _ (by rw [hnw]; repeat (first | exact .head _ | assumption | exact List.mem_append_left _ (by assumption) | refine .tail _ ?_ | refine List.mem_append_right _ ?_)))
    e1 e2 (g1 rfl rfl) (g1 rfl rfl) (g1 rfl rfl) (g1 rfl rfl) (g1 rfl rfl) (g1 rfl rfl) (g1 rfl rfl) e10 (g1 rfl rfl) e12 e13 rfl rfl iSu iLa iSe iTo iCa iRe iBo hn9 hll hrl (by simp only [List.length_append, List.length_map, List.length_range, List.length_cons, List.length_nil]; omega) hb hb' hd1 hd2 hpass
    (fun ps2 vSe2 kSe2 sn2 tl2 h2 tk2 m2 F2 N2 iSe2 ln2 off2 mt2 => ?_))
  · exact sub_c (.tail _ (.head _)) (sub_c (.tail _ (.tail _ (.tail _ (.tail _ (.head _))))) (sub_c (.head _) (sub_c (.tail _ (.tail _ (.head _))) (sub_c (.tail _ (.tail _ (.tail _ (.head _)))) (sub_t (sub_t (sub_t (sub_t (sub_t sub_id)))))))))
  obtain ⟨tt, mt2⟩ := mt2
  have g : ∀ {x : Str} {v : Option Value}, turnNames.contains x = false → m1 x = v → m2 x = v := fun hx e => off2.get hx e
  show wpAny _ _ (execs (lawRest 19) _) _ _ _
  refine law_end (p1 := ps2) (p2 := psC) (p3 := psU) (n := n) (b := b) (oB := oB) (lSe := lSe) (vSe := vSe2) (kSe := kSe2) (lCa := lCa) (vCa := vCa) (kCa := kCa) (lBo := lBo) (vBo := vBo) (kBo := kBo) B F2 X (kst_newsOf N2 ?_) T dB (g rfl (g1 rfl rfl)) (g rfl e12) (g rfl e13) (g rfl (g1 rfl rfl)) (g rfl (g1 rfl rfl)) (g rfl e10) mt2 (g rfl (g1 rfl rfl)) (g rfl (g1 rfl rfl)) iCa iBo iSe2 hn9 (by simp) (by simp) (by omega) hb hb' ?_ ?_ ?_ ?_ hpass (fun h3 tk3 m3 F3 N3 => h h3 tk3 m3 _ _ _ F3 N3)
  · rw [hnw]; repeat (first | exact sub_id | exact sub_n | refine sub_c (by repeat (first | exact .head _ | assumption | exact List.mem_append_left _ (by assumption) | refine .tail _ ?_ | refine List.mem_append_right _ ?_)) ?_ | refine sub_t ?_ | exact sub_l sub_id | exact sub_r sub_id | refine sub_o ?_ ?_ | refine sub_r ?_)
  · rw [range_map_getD (by omega)]; exact sum_div hb n (by omega) rfl
  · rw [range_map_getD (by omega)]; exact lack_div hb hd1 hd2 n (by omega) rfl
  · exact lack_lt hb hd1 hd2
  · exact lack_gt hb hd1 hd2
end
end Mine
end -- T8

section -- L3
open PySem PySem.W PyProof.Rows
set_option maxRecDepth 100000
set_option maxHeartbeats 8000000
namespace Mine
section
variable {w : World} {p : Program} {loose : List Str} {mean : ExcName → Option Value} {mg mb : Str → Option Value} {h₀ : Heap} {L fa : Addr} {cd : Value} {s : Shared} {Q : Flow → Shared → Prop} {E : Value → Shared → Prop} {u : Str → Option Value}
theorem law_B {D lL lR : Addr} {ws ys cv : List Value} {ds ls rs : List Int} {b : Int} {tb : Tok} {oB oLt oR c4 : Obj} {k1 k2 k3 : Nat} {w4 : Option Value}
    (B : Below callerA h₀ [] h₀) (F : Fr h₀ L s.heap (fun y => if y = Str.ofString "draws" then some (.ref D) else u y)) (X : (hd.heap_39 w.params).In h₀)
    (N : News h₀ L s.heap [(lR, W.listOf cv.toArray k1), (lL, W.listOf ys.toArray k2), (D, W.listOf ws.toArray k3), (L + 1 + 1 + 1 + 1, c4), (L + 1 + 1 + 1, oR), (L + 1 + 1, oLt), (L + 1, oB), (114, tabObj #[]), (100, tabObj #[]), (107, tabObj #[])])
    (T : Top p loose mean mg mb h₀) (hC1 : CodeHd h₀ 118 114) (hC2 : CodeHd h₀ 104 100) (hC3 : CodeHd h₀ 111 107)
    (dB : oB.data = .cell (some (.int b tb))) (dLt : oLt.data = .cell (some (.ref lL))) (dR : oR.data = .cell (some (.ref lR))) (d4 : c4.data = .cell w4)
    (hl : @LT.lt Nat _ 114 L ∧ @LT.lt Nat _ 100 L ∧ @LT.lt Nat _ 107 L)
    (hD : @LT.lt Nat _ (L + 1 + 1 + 1 + 1) D ∧ @LT.lt Nat _ (L + 1 + 1 + 1) D ∧ @LT.lt Nat _ (L + 1 + 1) D ∧ @LT.lt Nat _ (L + 1) D ∧ @LT.lt Nat _ 114 D ∧ @LT.lt Nat _ 100 D ∧ @LT.lt Nat _ 107 D)
    (o1 : @Ne Nat D lL ∧ @Ne Nat (L + 1 + 1 + 1 + 1) lL ∧ @Ne Nat (L + 1 + 1 + 1) lL ∧ @Ne Nat (L + 1 + 1) lL ∧ @Ne Nat (L + 1) lL ∧ @Ne Nat 114 lL ∧ @Ne Nat 100 lL ∧ @Ne Nat 107 lL)
    (l1 : @LT.lt Nat _ lL lR ∧ @LT.lt Nat _ D lR ∧ @LT.lt Nat _ (L + 1 + 1 + 1 + 1) lR ∧ @LT.lt Nat _ (L + 1 + 1 + 1) lR ∧ @LT.lt Nat _ (L + 1 + 1) lR ∧ @LT.lt Nat _ (L + 1) lR ∧ @LT.lt Nat _ 114 lR ∧ @LT.lt Nat _ 100 lR ∧ @LT.lt Nat _ 107 lR)
    (hIw : IntsAre ws ds) (hIl : IntsAre ys ls) (hIr : IntsAre cv rs) (hd1 : ds.length ≤ 9) (hd0 : 3 ≤ ds.length) (hll : ls.length = ds.length) (hrl : rs.length = ds.length)
    (hb : 2 ≤ b) (hb' : b ≤ 10) (hld : ∀ x ∈ ls, 0 ≤ x ∧ x < b) (hrd : ∀ x ∈ rs, 0 ≤ x ∧ x < b) (hs1 : Small ls) (hs2 : Small rs)
    (hpass : PassesOwn (model PR w) (callerA.deeper (envOfC (Str.ofString "law") lawParts.2.2 L fa cd)) (envOfC (Str.ofString "law") lawParts.2.2 L fa cd) E)
    (h : ∀ h' tk' m' ps1 ps2 ps3, Fr h₀ L h' m' → News h₀ L h' [(100, tabObj ps1), (107, tabObj ps2), (114, tabObj ps3)] → Q (.ret (.bool true)) { s with heap := h', toks := tk' }) :
    wpAny (model PR w) (callerA.deeper (envOfC (Str.ofString "law") lawParts.2.2 L fa cd)) (execs (lawRest 5) (envOfC (Str.ofString "law") lawParts.2.2 L fa cd)) Q E s := by
  k_with_none
  w_top off
  k_with "call ref cons nil" => first | (k_here; (with_reducible show wpAny _ _ (call (Value.ref _) [_, _]) _ _ _); k_dflt ((first | refine' getitem_op ?zqB ?zqF ?zqX ?zqN ?zqT ?zqk ?zqd ?zqu ?zqm ?zqi ?zqg ?zql ?zqn ?_ | refine' floordiv_op ?zqB ?zqF ?zqX ?zqN ?zqT ?zqk ?zqd ?zqu ?zqy ?zqp ?_ | refine' mod_op ?zqB ?zqF ?zqX ?zqN ?zqT ?zqk ?zqd ?zqu ?zqy ?_ | refine' add_op ?zqB ?zqF ?zqX ?zqN ?zqT ?zqk ?zqd ?zqu ?_ | refine' sub_op ?zqB ?zqF ?zqX ?zqN ?zqT ?zqk ?zqd ?zqu ?_ | refine' lt_op ?zqB ?zqF ?zqX ?zqN ?zqT ?zqk ?zqd ?zqu ?_ | refine' le_op ?zqB ?zqF ?zqX ?zqN ?zqT ?zqk ?zqd ?zqu ?_ | refine' eq_op ?zqB ?zqF ?zqX ?zqN ?zqT ?zqk ?zqd ?zqu ?_ | refine' ne_op ?zqB ?zqF ?zqX ?zqN ?zqT ?zqk ?zqd ?zqu ?_ | refine' ge_op ?zqB ?zqF ?zqX ?zqN ?zqT ?zqk ?zqd ?zqu ?_ | refine' gt_op ?zqB ?zqF ?zqX ?zqN ?zqT ?zqk ?zqd ?zqu ?_); (case zqB => k_asm); (case zqF => k_asm); (case zqX => k_asm); (case zqN => k_asm); (case zqT => k_asm); (case zqk => exact rfl); (case zqd => first | decide | omega); (case zqu => first | decide | omega); (try (case zqy => first | assumption | omega)); (try (case zqp => assumption)); (try (case zqm => k_mem)); (try (case zqi => assumption)); (try (case zqg => omega)); (try (case zql => omega)); (try (case zqn => omega)); k_whole); intros; (try dsimp only)) | refine Stop.out ?_
  k_with "call ref nil nil" => refine Stop.out ?_
  k_with "CompSrc Call cons ref" => refine Stop.out ?_
  revert X; unfold PR at *; k_fill; intro X
  unfold lawRest at *
  conv =>
    pattern (occs := *) lawParts
    all_goals whnf
  dsimp only [List.drop]
  obtain ⟨nw0, hw0⟩ : ∃ nw0 : List (Addr × Obj), nw0 = [(lR, W.listOf cv.toArray k1), (lL, W.listOf ys.toArray k2), (D, W.listOf ws.toArray k3), (L + 1 + 1 + 1 + 1, c4), (L + 1 + 1 + 1, oR), (L + 1 + 1, oLt), (L + 1, oB), (114, tabObj #[]), (100, tabObj #[]), (107, tabObj #[])] := ⟨_, rfl⟩
  rw [← hw0] at N
  have iR : (lR, W.listOf cv.toArray k1) ∈ nw0 := by rw [hw0]; k_mem
  have iL : (lL, W.listOf ys.toArray k2) ∈ nw0 := by rw [hw0]; k_mem
  have iD : (D, W.listOf ws.toArray k3) ∈ nw0 := by rw [hw0]; k_mem
  have i4 : (L + 1 + 1 + 1 + 1, c4) ∈ nw0 := by rw [hw0]; k_mem
  have i3 : (L + 1 + 1 + 1, oR) ∈ nw0 := by rw [hw0]; k_mem
  have i2 : (L + 1 + 1, oLt) ∈ nw0 := by rw [hw0]; k_mem
  have i1 : (L + 1, oB) ∈ nw0 := by rw [hw0]; k_mem
  have j1 : (114, tabObj #[]) ∈ nw0 := by rw [hw0]; k_mem
  have j2 : (100, tabObj #[]) ∈ nw0 := by rw [hw0]; k_mem
  have j3 : (107, tabObj #[]) ∈ nw0 := by rw [hw0]; k_mem
  have ap : ∀ {d : Addr} {l : List (Addr × Obj)}, AllLt d l → (∀ p ∈ nw0, p ∈ l) → @Ne Nat d 100 ∧ @Ne Nat d 107 ∧ @Ne Nat d 114 ∧ @Ne Nat d (L + 1 + 1 + 1 + 1) := fun ha hs =>
    ⟨Nat.ne_of_gt (kst_ltOf ha _ (hs _ j2)), Nat.ne_of_gt (kst_ltOf ha _ (hs _ j3)), Nat.ne_of_gt (kst_ltOf ha _ (hs _ j1)), Nat.ne_of_gt (kst_ltOf ha _ (hs _ i4))⟩
  have ao : ∀ {d : Addr} {l : List (Addr × Obj)}, (∀ p ∈ l, @Ne Nat p.1 d) → (∀ p ∈ nw0, p ∈ l) → @Ne Nat d 100 ∧ @Ne Nat d 107 ∧ @Ne Nat d 114 ∧ @Ne Nat d (L + 1 + 1 + 1 + 1) := fun ha hs =>
    ⟨Ne.symm (ha _ (hs _ j2)), Ne.symm (ha _ (hs _ j3)), Ne.symm (ha _ (hs _ j1)), Ne.symm (ha _ (hs _ i4))⟩
  have zl : ls.length ≤ 9 := by omega
  have zr : rs.length ≤ 9 := by omega
  have zrl : rs.length = ls.length := by omega
  have zy : ys.length = ds.length := by rw [hIl.length, hll]
  have zc : cv.length = ds.length := by rw [hIr.length, hrl]
  have zw : ws.length = ds.length := hIw.length
  clear hD o1 l1 hw0
  replace N := kst_newsOf N (sub_c iD (sub_c i3 (sub_c i2 (sub_c i1 sub_id))))
  try k_fold
  k_steps
  rename_i F1 N1
  refine Stop.of ?_
  refine worth_spec (lf := lL) (vs := ys) (ns := ls) B F1 X (kst_newsOf N1 (sub_c (sub_t (sub_t (sub_t (sub_t sub_id))) _ iL) sub_id)) T rfl (by decide) (by decide) hIl zl hs1 hb hb' (fun ta g1 tk1 F2 N2 => ?_)
  replace N2 := kst_newsOf N2 (sub_t sub_id)
  clear F1 N1
  k_steps
  rename_i F1 N1
  refine Stop.of ?_
  refine worth_spec (lf := lR) (vs := cv) (ns := rs) B F1 X (kst_newsOf N1 (sub_c (sub_t (sub_t (sub_t (sub_t sub_id))) _ iR) sub_id)) T rfl (by decide) (by decide) hIr zr hs2 hb hb' (fun tbb g2 tk2 F3 N3 => ?_)
  replace N3 := kst_newsOf N3 (l' := (L + 1 + 1 + 1, oR) :: (L + 1 + 1, oLt) :: (L + 1, oB) :: nw0) (sub_t (sub_t sub_id))
  clear F1 N1
  k_steps
  rename_i F1 N1
  refine Stop.of ?_
  refine added_spec (la := lL) (lb := lR) (ls := ls) (rs := rs) B F1 X (kst_newsOf N1 (sub_c (sub_t (sub_t (sub_t sub_id)) _ iL) (sub_c (sub_t (sub_t (sub_t sub_id)) _ iR) sub_id))) T rfl (by decide) (by decide) hIl hIr zl zrl hb hb' (fun D4 l4 l5 w4 w5 n4 n5 g4 tk4 F4 N4 hI4 hI5 lt4 lt5 lt6 => ?_)
  have a4 := ap lt4 (sub_t (sub_t (sub_t (sub_t (sub_t sub_id)))))
  have a5 : @Ne Nat l5 100 ∧ @Ne Nat l5 107 ∧ @Ne Nat l5 114 ∧ @Ne Nat l5 (L + 1 + 1 + 1 + 1) := ap (allLt_mono (Nat.le_of_lt lt5) lt4) (sub_t (sub_t (sub_t (sub_t (sub_t sub_id)))))
  clear lt4 lt5 lt6
  obtain ⟨nw1, hw1⟩ : ∃ nw1 : List (Addr × Obj), nw1 = (l5, W.listOf w5.toArray n5) :: (l4, W.listOf w4.toArray n4) :: nw0 := ⟨_, rfl⟩
  have t1 : ∀ p ∈ nw0, p ∈ nw1 := by rw [hw1]; exact sub_t (sub_t sub_id)
  replace N4 : News h₀ L g4 ((D4, ({ cls := .type "tuple", data := .seq #[.ref l4, .ref l5] } : Obj)) :: (L + 1 + 1 + 1, oR) :: (L + 1 + 1, oLt) :: (L + 1, oB) :: nw1) := kst_newsOf N4 (by rw [hw1]; exact sub_c (.head _) (sub_t (sub_c (.tail _ (.tail _ (.tail _ (.tail _ (.head _))))) (sub_c (.tail _ (.tail _ (.tail _ (.tail _ (.tail _ (.head _)))))) (sub_c (.tail _ (.tail _ (.tail _ (.tail _ (.tail _ (.tail _ (.head _))))))) (sub_c (.head _) (sub_c (.tail _ (.head _)) (sub_t (sub_t (sub_t (sub_t (sub_t (sub_t (sub_t sub_id))))))))))))))
  clear F1 N1
  k_steps
  rename_i F1 N1
  refine Stop.of ?_
  refine taken_spec (la := lL) (lb := lR) (ls := ls) (rs := rs) (news := (L + 1 + 1 + 1, oR) :: (L + 1 + 1, oLt) :: (L + 1, oB) :: nw1) B F1 X (kst_newsOf N1 (sub_c (sub_t (sub_t (sub_t (sub_t t1))) _ iL) (sub_c (sub_t (sub_t (sub_t (sub_t t1))) _ iR) (sub_t sub_id)))) T rfl (by decide) (by decide) hIl hIr zl zrl hb hb' (fun D5 l6 l7 w6 w7 n6 n7 g5 tk5 F5 N5 hI6 hI7 lt7 lt8 lt9 => ?_)
  have a6 := ap lt7 (sub_t (sub_t (sub_t (sub_t (sub_t t1)))))
  have a7 : @Ne Nat l7 100 ∧ @Ne Nat l7 107 ∧ @Ne Nat l7 114 ∧ @Ne Nat l7 (L + 1 + 1 + 1 + 1) := ap (allLt_mono (Nat.le_of_lt lt8) lt7) (sub_t (sub_t (sub_t (sub_t (sub_t t1)))))
  clear lt7 lt8 lt9
  obtain ⟨nw2, hw2⟩ : ∃ nw2 : List (Addr × Obj), nw2 = (l7, W.listOf w7.toArray n7) :: (l6, W.listOf w6.toArray n6) :: nw1 := ⟨_, rfl⟩
  have t2 : ∀ p ∈ nw0, p ∈ nw2 := by rw [hw2]; exact sub_t (sub_t t1)
  replace N5 : News h₀ L g5 ((D5, ({ cls := .type "tuple", data := .seq #[.ref l6, .ref l7] } : Obj)) :: (L + 1 + 1 + 1, oR) :: (L + 1 + 1, oLt) :: (L + 1, oB) :: nw2) := kst_newsOf N5 (by rw [hw2]; exact sub_c (.head _) (sub_c (.tail _ (.tail _ (.tail _ (.tail _ (.tail _ (.head _)))))) (sub_c (.tail _ (.tail _ (.tail _ (.tail _ (.tail _ (.tail _ (.head _))))))) (sub_c (.tail _ (.tail _ (.tail _ (.tail _ (.tail _ (.tail _ (.tail _ (.head _)))))))) (sub_c (.tail _ (.head _)) (sub_c (.tail _ (.tail _ (.head _))) (sub_t (sub_t (sub_t (sub_t (sub_t (sub_t (sub_t (sub_t sub_id))))))))))))))
  clear F1 N1
  k_steps
  rename_i F1 N1
  refine Stop.of ?_
  refine stretches_spec (la := lL) (lb := lR) (ls := ls) (rs := rs) (news := (L + 1 + 1 + 1, oR) :: (L + 1 + 1, oLt) :: (L + 1, oB) :: nw2) B F1 X (kst_newsOf N1 (sub_c (sub_t (sub_t (sub_t (sub_t t2))) _ iL) (sub_c (sub_t (sub_t (sub_t (sub_t t2))) _ iR) (sub_t sub_id)))) T rfl (by decide) (by decide) hIl hIr zl zrl hb hb' (fun D6 y6 tl6 g6 tk6 F6 N6 hP6 of6 lt10 => ?_)
  have a8 := ao (off1_app of6) (sub_t (sub_t (sub_l (sub_t (sub_t (sub_t t2))))))
  have aT : ∀ p ∈ tl6, @Ne Nat p.1 100 ∧ @Ne Nat p.1 107 ∧ @Ne Nat p.1 114 ∧ @Ne Nat p.1 (L + 1 + 1 + 1 + 1) := fun p hp => ap (lt10 p hp) (sub_t (sub_t (sub_t (sub_t (sub_t t2)))))
  clear of6 lt10
  obtain ⟨nw3, hw3⟩ : ∃ nw3 : List (Addr × Obj), nw3 = (D6, LCg.lst y6) :: (nw2 ++ tl6) := ⟨_, rfl⟩
  have u0 : ∀ p ∈ nw0, p ∈ nw3 := by rw [hw3]; exact sub_t (sub_l t2)
  have uT : ∀ p ∈ tl6, p ∈ nw3 := by rw [hw3]; exact sub_t (sub_r sub_id)
  have u8 : (D6, LCg.lst y6) ∈ nw3 := by rw [hw3]; exact .head _
  have u7 : (l7, W.listOf w7.toArray n7) ∈ nw3 := by rw [hw3]; refine .tail _ (List.mem_append_left _ ?_); rw [hw2]; repeat (first | exact .head _ | assumption | exact List.mem_append_left _ (by assumption) | refine .tail _ ?_ | refine List.mem_append_right _ ?_)
  have u6 : (l6, W.listOf w6.toArray n6) ∈ nw3 := by rw [hw3]; refine .tail _ (List.mem_append_left _ ?_); rw [hw2]; repeat (first | exact .head _ | assumption | exact List.mem_append_left _ (by assumption) | refine .tail _ ?_ | refine List.mem_append_right _ ?_)
  have u5 : (l5, W.listOf w5.toArray n5) ∈ nw3 := by rw [hw3]; refine .tail _ (List.mem_append_left _ ?_); rw [hw2]; refine .tail _ (.tail _ ?_); rw [hw1]; repeat (first | exact .head _ | assumption | exact List.mem_append_left _ (by assumption) | refine .tail _ ?_ | refine List.mem_append_right _ ?_)
  have u4 : (l4, W.listOf w4.toArray n4) ∈ nw3 := by rw [hw3]; refine .tail _ (List.mem_append_left _ ?_); rw [hw2]; refine .tail _ (.tail _ ?_); rw [hw1]; repeat (first | exact .head _ | assumption | exact List.mem_append_left _ (by assumption) | refine .tail _ ?_ | refine List.mem_append_right _ ?_)
  replace N6 : News h₀ L g6 ((lL, W.listOf ys.toArray k2) :: (lR, W.listOf cv.toArray k1) :: (L + 1 + 1 + 1, oR) :: (L + 1 + 1, oLt) :: nw3) := kst_newsOf N6 (by rw [hw3]; repeat (first | exact sub_id | exact sub_n | refine sub_c (by repeat (first | exact .head _ | assumption | exact List.mem_append_left _ (by assumption) | refine .tail _ ?_ | refine List.mem_append_right _ ?_)) ?_ | refine sub_t ?_ | exact sub_l sub_id | exact sub_r sub_id | refine sub_o ?_ ?_ | refine sub_r ?_))
  clear F1 N1 hw1 hw2 hw3
  k_steps
  rename_i F1 N1 h1 tk1 t1 u1 v1 rg FR NR kp
  clear kp F1 N1
  refine Stop.of ?_
  refine LCg.CompSrc.range (by rfl) FR NR rg (small_one (by omega) (by omega) (by omega) (by omega)) (rangeSize_nat _ _) (by simp only [Int.sub_zero, Int.toNat_natCast]; rw [sizeLine_eq]; omega) ?_
  intro g9
  simp only [Int.sub_zero, Int.toNat_natCast]
  obtain ⟨WW, hW⟩ : ∃ WW : List (Addr × Obj), WW = (lL, W.listOf ys.toArray k2) :: (lR, W.listOf cv.toArray k1) :: (L + 1 + 1 + 1, oR) :: (L + 1 + 1, oLt) :: nw3 := ⟨_, rfl⟩
  rw [← hW]
  refine compRest_inv (n := ds.length) (fun i xs nw => nw = WW ∧ IntsAre xs ((List.range i).map (fun k => ls.getD k 0 + rs.getD k 0))) ?_ ?_ _ 0 [] _ (Nat.zero_add _) ⟨rfl, .nil⟩
  · rintro i xs nw hi ⟨rfl, hP⟩ v I oI C oC' D' m₂ h5 tk5 E5 ⟨t5, rfl⟩ hNs hx F5 N5 off5 ne5
    clear rg FR NR
    rw [hW] at N5
    k_steps
    show LCg.CompEnd _ _ _ _ _ _ _ _ _ _ _ _ _ _
    refine compEnd_same (W := nw) (by assumption) (by rw [hW]; assumption) off5 trivial ⟨rfl, ints_snoc hP ?_⟩
    rw [show ((0 : Int) + (i : Int)).toNat = i by omega]
  · rintro xs nw ⟨rfl, hP⟩
    clear rg FR NR
    rw [hW]
    k_steps
    rename_i D7 _ _ F1 N1 of7 h1 tk1 t1 u1 v1 rg FR NR kp
    clear kp F1 N1
    have hP7 := hP
    clear hP
    have b7 := ao (off1_app (l := (lL, W.listOf ys.toArray k2) :: (lR, W.listOf cv.toArray k1) :: (L + 1 + 1 + 1, oR) :: (L + 1 + 1, oLt) :: nw3) of7) (sub_t (sub_t (sub_t (sub_t u0))))
    clear of7
    refine Stop.of ?_
    refine LCg.CompSrc.range (by rfl) FR NR rg (small_one (by omega) (by omega) (by omega) (by omega)) (rangeSize_nat _ _) (by simp only [Int.sub_zero, Int.toNat_natCast]; rw [sizeLine_eq]; omega) ?_
    intro g10
    simp only [Int.sub_zero, Int.toNat_natCast]
    obtain ⟨W2, hW2⟩ : ∃ W2 : List (Addr × Obj), W2 = (D7, LCg.lst xs) :: (lL, W.listOf ys.toArray k2) :: (lR, W.listOf cv.toArray k1) :: (L + 1 + 1 + 1, oR) :: (L + 1 + 1, oLt) :: nw3 := ⟨_, rfl⟩
    rw [← hW2]
    refine compRest_inv (n := ds.length) (fun i xs nw => nw = W2 ∧ IntsAre xs ((List.range i).map (fun k => ls.getD k 0 - rs.getD k 0))) ?_ ?_ _ 0 [] _ (Nat.zero_add _) ⟨rfl, .nil⟩
    · rintro i xs nw hi ⟨rfl, hP⟩ v I oI C oC' D' m₂ h5 tk5 E5 ⟨t5, rfl⟩ hNs hx F5 N5 off5 ne5
      clear rg FR NR
      rw [hW2] at N5
      k_steps
      show LCg.CompEnd _ _ _ _ _ _ _ _ _ _ _ _ _ _
      refine compEnd_same (W := nw) (by assumption) (by rw [hW2]; assumption) off5 trivial ⟨rfl, ints_snoc hP ?_⟩
      rw [show ((0 : Int) + (i : Int)).toNat = i by omega]
    · rintro xs2 nw2' ⟨rfl, hP8⟩
      clear rg FR NR
      rw [hW2]
      intro D8 g8 tk8 F8 N8 of8
      have b8 := ao (off1_app of8) (sub_t (sub_t (sub_t (sub_t (sub_t u0)))))
      simp only [hll, hrl] at F8 hI4 hI5 hI6 hI7
      refine law_S (n := ds.length) (kLa := xs2.length) (kSu := xs.length) (kSt := y6.length) (kBo := n7) (kRe := n6) (kCa := n5) (kTo := n4) (tl := tl6) B F8 X (kst_newsOf N8 ?_) T hC1 hC2 hC3 dB d4 hl ?_ hP7 hP8 hI4 hI5 hI6 hI7 hP6 hd1 hd0 hll hrl hb hb' hld hrd hpass (fun h' tk' m' ps1 ps2 ps3 F9 N9 => ?_)
      · have w0 : ∀ p ∈ nw3, p ∈ (D8, LCg.lst xs2) :: (D7, LCg.lst xs) :: (lL, W.listOf ys.toArray k2) :: (lR, W.listOf cv.toArray k1) :: (L + 1 + 1 + 1, oR) :: (L + 1 + 1, oLt) :: nw3 := sub_t (sub_t (sub_t (sub_t (sub_t (sub_t sub_id)))))
        exact sub_c (.head _) (sub_c (.tail _ (.head _)) (sub_c (w0 _ u8) (sub_c (w0 _ u7) (sub_c (w0 _ u6) (sub_c (w0 _ u5) (sub_c (w0 _ u4) (sub_c (w0 _ (u0 _ i4)) (sub_c (w0 _ (u0 _ i1)) (sub_c (w0 _ (u0 _ j1)) (sub_c (w0 _ (u0 _ j2)) (sub_c (w0 _ (u0 _ j3)) (fun p hp => w0 _ (uT p hp)))))))))))))
      · intro p hp
        simp only [List.mem_cons] at hp
        rcases hp with rfl | rfl | rfl | rfl | rfl | rfl | rfl | rfl | hp
        · exact b8
        · exact b7
        · exact a8
        · exact a7
        · exact a6
        · exact a5
        · exact a4
        · refine ⟨?_, ?_, ?_, ?_⟩ <;> (show @Ne Nat _ _; omega)
        · exact aT p hp
      · exact h _ _ _ _ _ _ F9 N9
end
end Mine
end -- L3

section -- L2
open PySem PySem.W PyProof.Rows
set_option maxRecDepth 100000
set_option maxHeartbeats 8000000
namespace Mine
section
variable {w : World} {p : Program} {loose : List Str} {mean : ExcName → Option Value} {mg mb : Str → Option Value} {h₀ : Heap} {L fa : Addr} {cd : Value} {s : Shared} {Q : Flow → Shared → Prop} {E : Value → Shared → Prop} {u : Str → Option Value}
theorem law_A {D : Addr} {ws : List Value} {ds : List Int} {b : Int} {tb : Tok} {c1 c2 c3 c4 : Obj}
    (B : Below callerA h₀ [] h₀) (F : Fr h₀ L s.heap (fun y => if y = Str.ofString "draws" then some (.ref D) else u y)) (X : (hd.heap_39 w.params).In h₀)
    (N : News h₀ L s.heap [(D, W.listOf ws.toArray 0), (L + 1 + 1 + 1 + 1, c4), (L + 1 + 1 + 1, c3), (L + 1 + 1, c2), (L + 1, c1), (114, tabObj #[]), (100, tabObj #[]), (107, tabObj #[])])
    (T : Top p loose mean mg mb h₀) (hC1 : CodeHd h₀ 118 114) (hC2 : CodeHd h₀ 104 100) (hC3 : CodeHd h₀ 111 107)
    (hc1 : ∃ v, c1.data = .cell v) (hc2 : ∃ v, c2.data = .cell v) (hc3 : ∃ v, c3.data = .cell v) (hc4 : ∃ v, c4.data = .cell v)
    (hl : @LT.lt Nat _ 114 L ∧ @LT.lt Nat _ 100 L ∧ @LT.lt Nat _ 107 L) (hD : @LT.lt Nat _ (L + 1 + 1 + 1 + 1) D ∧ @LT.lt Nat _ (L + 1 + 1 + 1) D ∧ @LT.lt Nat _ (L + 1 + 1) D ∧ @LT.lt Nat _ (L + 1) D ∧ @LT.lt Nat _ 114 D ∧ @LT.lt Nat _ 100 D ∧ @LT.lt Nat _ 107 D)
    (hI : IntsAre ws ds) (hd1 : ds.length ≤ 9) (hd0 : 3 ≤ ds.length) (hdn : ∀ x ∈ ds, 0 ≤ x) (hb : 2 ≤ b) (hb' : b ≤ 10)
    (hpass : PassesOwn (model PR w) (callerA.deeper (envOfC (Str.ofString "law") lawParts.2.2 L fa cd)) (envOfC (Str.ofString "law") lawParts.2.2 L fa cd) E)
    (h : ∀ h' tk' m' ps1 ps2 ps3, Fr h₀ L h' m' → News h₀ L h' [(100, tabObj ps1), (107, tabObj ps2), (114, tabObj ps3)] → Q (.ret (.bool true)) { s with heap := h', toks := tk' }) :
    wpAny (model PR w) (callerA.deeper (envOfC (Str.ofString "law") lawParts.2.2 L fa cd)) (storeName (envOfC (Str.ofString "law") lawParts.2.2 L fa cd) (Str.ofString "base") (.int b tb))
      (fun _ s' => wpAny (model PR w) (callerA.deeper (envOfC (Str.ofString "law") lawParts.2.2 L fa cd)) (execs (lawRest 2) (envOfC (Str.ofString "law") lawParts.2.2 L fa cd)) Q E s') E s := by
  k_with_none
  w_top off
  k_with "pyIter ref" => refine Stop.out ?_
  revert X; unfold PR at *; k_fill; intro X
  obtain ⟨_, hc1⟩ := hc1
  obtain ⟨_, hc2⟩ := hc2
  obtain ⟨_, hc3⟩ := hc3
  obtain ⟨_, hc4⟩ := hc4
  unfold lawRest at *
  conv =>
    pattern (occs := *) lawParts
    all_goals whnf
  dsimp only [List.drop]
  try k_fold
  k_steps
  rename_i oB dB hkl _ iL hL8 lL _ _ o1 _ oLt dLt lR _ l1 _ oR FR NR dR
  refine Stop.of ?_
  with_unfolding_all refine' kst_listL (σ := List Value × List Int × Nat) (fun c => (lR, W.listOf c.1.toArray c.2.2) :: (lL, LCg.lst ys) :: (D, W.listOf ws.toArray 0) :: (L + 1 + 1 + 1 + 1, c4) :: (L + 1 + 1 + 1, oR) :: (L + 1 + 1, oLt) :: (L + 1, oB) :: (114, tabObj #[]) :: (100, tabObj #[]) :: (107, tabObj #[]) :: []) (fun _ => []) (fun c => IntsAre c.1 c.2.1) [Str.ofString "kind"] (fun pre c => c.2.1.length = pre.length ∧ c.2.1 = pre.map (rightOf b)) ([], [], 0) (by rfl) (fun _ => .tail _ (.tail _ (.head _))) hI FR NR .nil (fun _ h => nomatch h) right_start ?_ ?_
  · rintro ⟨cv, cn, ck⟩ kPre kPost kN kT kU kH kTk kOwn kEq kMem kOff kFacts kInv kFr kNews
    have kMark := kstMark
    clear FR NR
    dsimp only [kstB] at kFr
    dsimp only at kNews kFacts kInv kOff
    simp only [List.nil_append, List.cons_append, List.append_nil] at kNews
    simp only [List.map_cons, List.map_nil] at kOff
    obtain ⟨kI1, kI2⟩ := kInv
    have kLen := kFacts.length
    have kLd := congrArg List.length kEq
    simp only [List.length_append, List.length_cons] at kLd
    k_with "state" => first | exact right_step0 (by assumption) (by assumption) | exact right_step1 (by assumption) (by assumption) (by assumption) | exact right_step2 (by assumption) (by assumption) (by assumption)
    try k_fold
    k_steps
  · rintro ⟨cv, cn, ck⟩ kU kH kTk kFacts kInv kFr kNews
    dsimp only [kstB] at kFr
    dsimp only at kNews kFacts kInv
    obtain ⟨kI1, kI2⟩ := kInv
    have hm : (fun y => if y = Str.ofString "x" then kU y else if [Str.ofString "kind"].contains y = true then kU y else if y = Str.ofString "draws" then some (Value.ref D) else u y) = (fun y => if y = Str.ofString "draws" then some (Value.ref D) else if y = Str.ofString "x" then kU y else if [Str.ofString "kind"].contains y = true then kU y else u y) := by
      funext y
      by_cases hy : y = Str.ofString "draws"
      · subst hy; rfl
      · simp only [hy, if_false]
    rw [hm] at kFr
    subst kI2
    refine law_B (k1 := ck) (k2 := ys.length) (k3 := 0) B kFr X kNews T hC1 hC2 hC3 dB dLt dR hc4 hl hD o1 l1 hI iL kFacts hd1 hd0 (by simp) (by simp) hb hb' ?_ ?_ ?_ ?_ hpass (fun h' tk' m' ps1 ps2 ps3 F9 N9 => h _ _ _ _ _ _ F9 N9)
    · intro x hx
      obtain ⟨y, hy, rfl⟩ := List.mem_map.mp hx
      exact fmod_dig hb
    · intro x hx
      obtain ⟨y, hy, rfl⟩ := List.mem_map.mp hx
      exact right_dig hb
    · exact small_map fun y => Small.dig (fmod_dig hb) hb'
    · exact small_map fun y => Small.dig (right_dig hb) hb'
end
end Mine
end -- L2

section -- L1
open PySem PySem.W PyProof.Rows
set_option maxRecDepth 100000
set_option maxHeartbeats 8000000
namespace Mine
theorem draws_len {f : Int → Int} {w : List Int} : ((w.take 6).map f ++ [177, 34, 13]).length ≤ 9 ∧ 3 ≤ ((w.take 6).map f ++ [177, 34, 13]).length := by
  simp only [List.length_append, List.length_map, List.length_take, List.length_cons, List.length_nil]
  omega
theorem draws_nonneg {w : List Int} : ∀ x ∈ ((w.take 6).map (fun k => Int.fmod k 1000000) ++ [177, 34, 13]), 0 ≤ x := by
  intro x hx
  rcases List.mem_append.mp hx with hx | hx
  · obtain ⟨y, hy, rfl⟩ := List.mem_map.mp hx
    exact Int.fmod_nonneg_of_pos _ (by decide)
  · simp only [List.mem_cons, List.not_mem_nil, or_false] at hx
    omega
theorem base_dig {x : Int} : 2 ≤ 2 + Int.fmod x 9 ∧ 2 + Int.fmod x 9 ≤ 10 := by
  have h1 := Int.fmod_nonneg_of_pos x (b := 9) (by decide)
  have h2 := Int.fmod_lt_of_pos x (b := 9) (by decide)
  omega
theorem sub_first {a b c d e f g h i j k : Addr × Obj} : ∀ p ∈ [a, e, f, g, h, i, j, k], p ∈ [a, b, c, d, e, f, g, h, i, j, k] :=
  sub_c (.head _) (sub_t (sub_t (sub_t (sub_t sub_id))))
theorem T : PySem.Challenge.rw_pe0053_01.Holds := by
  k_with_none
  w_top off
  k_with "storeName" => ((with_reducible show wpAny _ _ (storeName _ (Str.ofString "base") _) _ _ _); refine Stop.out ?_)
  refine hd ?_
  w_strict (k_go0; (all_goals try k_fold); k_steps; all_goals (
    rename_i F9 N9
    refine Stop.of ?_
    refine law_A (by assumption) F9 (by assumption) (kst_newsOf N9 sub_first) (by assumption) (by assumption) (by assumption) (by assumption) ⟨_, by assumption⟩ ⟨_, by assumption⟩ ⟨_, by assumption⟩ ⟨_, by assumption⟩ (by omega) (by omega) (by assumption) draws_len.1 draws_len.2 draws_nonneg base_dig.1 base_dig.2 (by passes_own) (fun h' tk' m' ps1 ps2 ps3 F8 N8 => ?_)
    clear F9 N9
    dsimp only
    k_steps))
end Mine
end -- L1

set_option maxRecDepth 100000 in
set_option maxHeartbeats 8000000 in
theorem PySem.Challenge.cw_pe0053_01_holds : PySem.Challenge.rw_pe0053_01.Holds :=
  Mine.T
#print axioms PySem.Challenge.cw_pe0053_01_holds
