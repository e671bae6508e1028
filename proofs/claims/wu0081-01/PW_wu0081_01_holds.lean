import PyProof.Rows.All
import Wide.All
import OpenK.AllK
import Wide.FinOn
import Lean
import PySem.Challenge.RW_wu0081_01
section
open PySem PySem.W PyProof.Rows PySem.Calls
set_option Elab.async false
set_option compiler.extract_closed false
section
open PySem PySem.W PyProof.Rows PySem.Calls
set_option Elab.async false
set_option maxRecDepth 100000
set_option maxHeartbeats 8000000
set_option linter.unusedVariables false
namespace Mine
section
local macro_rules
  | `(tactic| o_head ($f $K $a $e $t)) => `(tactic| (rotate_left; exact $K; exact $a; rotate_left; o_head (id ($f $K $a $e $t))))
local macro_rules
  | `(tactic| refine $t:term) => do
  match t with
  | `($_ $args*) => if args.size < 5 then Lean.Macro.throwUnsupported else
    let q : Lean.TSyntax `term := ⟨args[0]!.raw[3]⟩
    `(tactic| (assumption; exact $q))
  | _ => Lean.Macro.throwUnsupported
structure Head where
  heap : Params → Frag
  addrs : List Addr
  view : Program
  same : OpenRow.Holds PySem.Challenge.rw_wu0081_01.row → OpenRow.Holds PySem.Challenge.rw_wu0081_01.row
noncomputable def top : Head := by
  constructor
  rotate_left 3
  intro h
  k_head
end
theorem addrsE : ∀ P, top.addrs = (top.heap_1 P).map (·.1) := fun _ => by kernel_rfl
theorem room0 {u b n : Nat} (h : u + b < n) : u < n := Nat.lt_of_le_of_lt (Nat.le_add_right u b) h
theorem roomA {u a b n : Nat} (h : u + b < n) (k : Nat.ble a b = true) : u + a < n := Nat.lt_of_le_of_lt (Nat.add_le_add_left (Nat.le_of_ble_eq_true k) u) h
theorem roomB {u a c b n : Nat} (h : u + b < n) (k : Nat.ble (a + c) b = true) : u + a + c < n := by rw [Nat.add_assoc]; exact roomA h k
theorem roomC {u a c d b n : Nat} (h : u + b < n) (k : Nat.ble (a + c + d) b = true) : u + a + c + d < n := by rw [Nat.add_assoc u, Nat.add_assoc u]; exact roomA h k
theorem roomD {u a c d e b n : Nat} (h : u + b < n) (k : Nat.ble (a + c + d + e) b = true) : u + a + c + d + e < n := by rw [Nat.add_assoc u, Nat.add_assoc u, Nat.add_assoc u]; exact roomA h k
theorem zmul (k : Int) : 0 + k * 1 = k := by rw [Int.mul_one, Int.zero_add]
theorem leK {a b c : Nat} (h : a ≤ b) (k : Nat.ble b c = true) : a ≤ c := Nat.le_trans h (Nat.le_of_ble_eq_true k)
theorem ltK {a b c : Nat} (h : a < b) (k : Nat.ble b c = true) : a < c := Nat.lt_of_lt_of_le h (Nat.le_of_ble_eq_true k)
theorem leL {a b c : Nat} (h : a < b) (k : Nat.ble b c = true) : a ≤ c := Nat.le_of_lt (ltK h k)
theorem ltEq {a n m : Nat} (h : n = m) (k : a < m) : a < n := by rw [h]; exact k
theorem fitK {a b c : Nat} (h : a < b) (k : Nat.ble b c = true) : (a : Int) < (c : Int) := Int.ofNat_lt.mpr (ltK h k)
noncomputable def lawS : { s : Stmt // s = PySem.Challenge.pw_wu0081_01.main.body.getD 29 (.Pass ⟨0, 0, 0, 0⟩) } := ⟨_, by conv => rhs; whnf⟩
noncomputable def lawDef : DefRec := match lawS.1 with
  | .FunctionDef n a b _ _ _ sc _ _ p => ⟨n, a, b, sc, p⟩
  | _ => ⟨"", { posonlyargs := [], args := [], vararg := none, kwonlyargs := [], kw_defaults := [], kwarg := none, defaults := [] }, [], { kind := .function, names := [], isGenerator := false, isCoroutine := false }, ⟨0, 0, 0, 0⟩⟩
end Mine
end

local macro_rules | `(tactic| walk_at $s) => if s.getString == "own conj" then `(tactic| first | exact And.left | exact fun h => Ne.symm h.1 | exact fun h => Nat.ne_of_lt h.1 | exact fun h => Nat.ne_of_gt h.1 | exact Ne.symm | exact Nat.ne_of_lt | exact Nat.ne_of_gt | (refine Function.comp ?_ And.right; walk_at "own conj")) else if s.getString == "own ne" then `(tactic| first | assumption | exact Ne.symm (by assumption) | exact Nat.ne_of_lt (by assumption) | exact Nat.ne_of_gt (by assumption) | (with_reducible rename _ ∧ _ => h9; first | (revert h9; walk_at "own conj") | (clear h9; walk_at "own ne"))) else Lean.Macro.throwUnsupported
local macro_rules | `(tactic| omega) => `(tactic| first | with_reducible assumption | with_reducible exact Mine.room0 (by assumption) | with_reducible exact Mine.roomA (by assumption) (by decide) | with_reducible exact Mine.roomB (by assumption) (by decide) | with_reducible exact Mine.roomC (by assumption) (by decide) | with_reducible exact Mine.roomD (by assumption) (by decide) | with_reducible exact Int.natCast_nonneg _ | with_reducible exact Mine.zmul _ | with_reducible exact Mine.leK (by assumption) (by decide) | with_reducible exact Mine.leL (by assumption) (by decide) | with_reducible exact Mine.ltK (by assumption) (by decide) | with_reducible exact Mine.ltEq (by assumption) (by assumption) | fail)
local macro_rules | `(tactic| k_ne) => `(tactic| (refine neN ?_; (try dsimp only); walk_at "own ne"))
section
open PySem PySem.W PyProof.Rows PySem.Calls
set_option Elab.async false
set_option maxRecDepth 100000
set_option maxHeartbeats 4000000
set_option pp.maxSteps 3000
set_option pp.deepTerms false
namespace Mine
abbrev accObj (dx : Addr) (its : Array Value) (n : Nat) : Obj := ⟨.ref 186, some dx, .seq its n, #[]⟩

theorem canon_list_ga : (Manifest.canonical "list.__getattribute__" != "object.__getattribute__") = false := by decide +kernel
theorem slot_list_ga : Slot "list" "__getattribute__" "list.__getattribute__" :=
  .of (owner := "list") (n := "__getattribute__") (by rw [typeLookup_type, builtinLookup_eq_fast]; kernel_rfl) (by decide +kernel) (by decide +kernel) (by decide +kernel)
    (by first | exact .inl (by decide +kernel) | exact .inr (by decide +kernel)) (by rw [isSubtype_type]; kernel_rfl)

theorem args_list_ga (a b : Value) : argsOk "list.__getattribute__" ⟨[a, b], []⟩ := by unfold argsOk; kernel_rfl

section
variable {w : World}
theorem f_list : mroIn (Mine.top.heap_1 w.params) 186 (.type "list") = some true := by kernel_rfl
theorem f_ga : findIn (Mine.top.heap_1 w.params) (.ref 186) "__getattribute__" = some (some (.builtin "list.__getattribute__")) := by kernel_rfl
theorem f_gat : findIn (Mine.top.heap_1 w.params) (.ref 186) "__getattr__" = some none := by kernel_rfl
theorem f_is : findIn (Mine.top.heap_1 w.params) (.ref 186) "_initial_size" = some none := by kernel_rfl
theorem f_hd : hasDictIn (Mine.top.heap_1 w.params) 186 = true := by kernel_rfl
theorem f_sa : findIn (Mine.top.heap_1 w.params) (.ref 186) "__setattr__" = some (some (.builtin "object.__setattr__")) := by kernel_rfl
end

section
variable {w : World} {A : Around} {E : Value → Shared → Prop} {s : Shared} {x : Addr} {od : Obj} {dx : Addr} {its : Array Value} {n : Nat} {name : Str} {pl : Sem Bool}
theorem acc_inst {h : Heap} (hx : h.get? x = some (accObj dx its n)) (hd : h.get? dx = some od) : InstAt h x (accObj dx its n) 186 (some od) := ⟨hx, rfl, rfl, hd⟩

theorem acc_method {f ft : Value} {Q : Value × List Value → Shared → Prop} (X : (Mine.top.heap_1 w.params).In s.heap) (hx : s.heap.get? x = some (accObj dx its n)) (hd : s.heap.get? dx = some od)
    (hf : findIn (Mine.top.heap_1 w.params) (.ref 186) name = some (some f)) (ht : typeIn (Mine.top.heap_1 w.params) f = some ft) (hft : (ft != .type "function" && ft != .type "method_descriptor" && ft != .type "wrapper_descriptor") = false)
    (hs : shadowIn (some od) name = some false) (h : Q (f, [.ref x]) s) :
    wpAny (model PySem.Challenge.rw_wu0081_01.row.prog w) A (getMethod (.ref x) name pl) Q E s := by
  have I := acc_inst hx hd
  unfold getMethod specialOf
  refine wpAny_bind (wpAny_bind (I.type.here ((looks_findIn X f_ga).here ?_)))
  dsimp only
  rw [canon_list_ga, if_neg (by decide)]
  refine wpAny_bind (wpAny_bind (I.type.here ((looks_findIn X f_gat).here ?_)))
  refine wpAny_bind (wpAny_bind (I.type.here ((looks_findIn X hf).here (wpAny_bind ((looks_typeIn X ht).here ?_)))))
  rw [hft, if_neg (by decide)]
  refine wpAny_bind (wpAny_loadPart I.at_ ?_)
  have hd' := I.dict
  obtain ⟨r, a, b⟩ := Option.map_eq_some_iff.mp hs
  refine wpAny_bind (wpAny_bind (wpAny_loadPart hd ?_))
  rw [nsLook_of a]
  refine wpAny_pure ?_
  rw [b]
  exact wpAny_bind (wpAny_rule (wpAny_pure h))

theorem acc_islist {M : Model} {h : Heap} (X : (Mine.top.heap_1 w.params).In h) (hx : h.get? x = some (accObj dx its n)) : Looks M h (isInstance (.ref x) (.type "list")) true :=
  (show Looks M h (typeOf (.ref x)) (.ref 186) from (Looks.ld hx).andThen .now).andThen (looks_mroIn X f_list)

theorem check_meth {M : Model} {i owner n : String} {self : Value} {rest : List Value} {kw : List (Str × Value)} {Q : Unit → Shared → Prop}
    (hk : builtinKind i = some .slot ∨ builtinKind i = some .method) (hs : splitId i = some (owner, n)) (hi : Looks M s.heap (isInstance self (.type owner)) true) (ha : argsOk i ⟨self :: rest, kw⟩) (q : Q () s) :
    wpAny M A (checkBuiltinCall i ⟨self :: rest, kw⟩) Q E s := by
  rcases hk with hk | hk
  all_goals
    simp only [checkBuiltinCall, hk, hs]
    refine wpAny_bind (hi.here ?_)
    simp only [Bool.not_true, Bool.false_eq_true, if_false]
    cases hsig : Manifest.signature? i with
    | none => exact wpAny_pure q
    | some sig =>
      simp only [argsOk, hsig] at ha
      have h2 : Bind.checkArgs i sig ⟨self :: rest, kw⟩ = pure () := ha
      show wpAny _ _ (Bind.checkArgs i sig ⟨self :: rest, kw⟩) _ _ s
      rw [h2]; exact wpAny_pure q

theorem acc_builtin {id nm : String} {b : Builtin} {rest : List Value} {Q : Value → Shared → Prop} (X : (Mine.top.heap_1 w.params).In s.heap) (hx : s.heap.get? x = some (accObj dx its n))
    (hk : builtinKind id = some .slot ∨ builtinKind id = some .method) (hs : splitId id = some ("list", nm)) (hp : plainId id = true) (hb : entryFor table id = some b) (ha : argsOk id ⟨.ref x :: rest, []⟩)
    (hc : wpAny (model PySem.Challenge.rw_wu0081_01.row.prog w) A.in1 (b ⟨.ref x :: rest, []⟩) (fun fin s' => ∃ v, fin = .done (.ret v) ∧ Q v s') E s) :
    wpAny (model PySem.Challenge.rw_wu0081_01.row.prog w) A (call (.builtin id) (.ref x :: rest)) Q E s := by
  refine wpAny_call (codeAny_call_builtin hp hb (check_meth hk hs (acc_islist X hx) ha (wpAny_mono hc (fun fin s' h' => ?_) fun _ _ h' => h')))
  obtain ⟨v, rfl, hv⟩ := h'; exact hv

theorem acc_append {v : Value} {Q : Value → Shared → Prop} (X : (Mine.top.heap_1 w.params).In s.heap) (hx : s.heap.get? x = some (accObj dx its n)) (hsz : its.size ≤ 1000)
    (h : Q .none { s with heap := s.heap.update x (Obj.mapSeq (·.push v)) }) : wpAny (model PySem.Challenge.rw_wu0081_01.row.prog w) A (call (.builtin "list.append") [.ref x, v]) Q E s := by
  refine acc_builtin X hx (.inr (by decide +kernel)) (nm := "append") (by decide +kernel) (by decide +kernel) PySem.F.entry_list_append (PySem.F.args_list_append_2 _ _) ?_
  show wpAny _ _ (updateSeq x (·.push v) >>= fun _ => ret .none) _ _ s
  refine wpAny_bind ?_
  refine wpAny_updateSeq hx rfl (hz := by rw [sizeLine_eq]; omega) (wpAny_pure ⟨.none, rfl, h⟩)

theorem acc_get {v : Value} {expr : Bool} {Q : Value → Shared → Prop} (X : (Mine.top.heap_1 w.params).In s.heap) (hx : s.heap.get? x = some (accObj dx its n)) (hd : s.heap.get? dx = some od)
    (hl : lookIn "_initial_size" od = some (some v)) (hv : handedIn v = true) (h : Q v { s with toks := s.toks + 1 }) :
    wpAny (model PySem.Challenge.rw_wu0081_01.row.prog w) A (getAttr (.ref x) "_initial_size" expr) Q E s := by
  have I := acc_inst hx hd
  obtain ⟨hh, g, d, t, os⟩ := s
  have L0 := I.type (M := model PySem.Challenge.rw_wu0081_01.row.prog w)
  have L1 := looks_findIn (M := model PySem.Challenge.rw_wu0081_01.row.prog w) X f_ga
  have L2 := looks_findIn (M := model PySem.Challenge.rw_wu0081_01.row.prog w) X f_gat
  have L3 := looks_find (M := model PySem.Challenge.rw_wu0081_01.row.prog w) X I (findObj_own f_hd f_is rfl hl)
  unfold getAttr getAttrBy
  refine wpAny_bind (wpAny_mkText (wpAny_holding (wpAny_bind (L0.at (wpAny_bind (L1.at ?_))))))
  show wpAny _ _ (getAttrByItsOwn (.ref x) (.str _ _) (.ref 186) (.builtin "list.__getattribute__") true expr) _ _ _
  unfold getAttrByItsOwn hookBefore callGetattribute boundAndCalled
  refine wpAny_bind (L2.at ?_)
  have e0 : (expr && onTheHeap (.builtin "list.__getattribute__")) = false := by cases expr <;> rfl
  rw [e0]
  refine wpAny_bind (wpAny_attempt (wpAny_holding ?_))
  show wpAny _ _ (bindSpecial (.builtin "list.__getattribute__") (.ref x) >>= _) _ _ _
  refine wpAny_bind (wpAny_of_eq (slot_list_ga.bind _) ?_)
  refine acc_builtin X hx (.inl (by decide +kernel)) (nm := "__getattribute__") (by decide +kernel) (by decide +kernel) PySem.am_entry_list_getattribute (args_list_ga _ _) ?_
  unfold Builtin.«object.__getattribute__»
  repeat lk
  refine ⟨v, rfl, ?_⟩
  show wpAny _ _ (handedOut v) _ _ _
  rw [handedOut_of hv]
  exact wpAny_pure h
end
end Mine
end

section
open PySem PySem.W PyProof.Rows PySem.Calls
set_option Elab.async false
set_option maxRecDepth 100000
set_option maxHeartbeats 4000000
set_option pp.maxSteps 3000
set_option pp.deepTerms false
namespace Mine
abbrev iniOf (h : Int) (u : Tok) (v : Value) : Obj := dictOf [⟨h, .str "_initial_size" u, v⟩] 1
theorem put_empty (h : Int) (u : Tok) (v : Value) : Obj.putName "_initial_size" h (.str "_initial_size" u) v (dictOf [] 0) = iniOf h u v := by kernel_rfl
theorem put_ini (h h' : Int) (u u' : Tok) (v v' : Value) : Obj.putName "_initial_size" h (.str "_initial_size" u) v (iniOf h' u' v') = iniOf h' u' v := by kernel_rfl
theorem look_empty : lookIn "_initial_size" (dictOf [] 0) = some none := by kernel_rfl
theorem look_ini (h : Int) (u : Tok) (v : Value) : lookIn "_initial_size" (iniOf h u v) = some (some v) := by kernel_rfl
theorem refuse_list (self : Value) : PySem.refuseLoop self "__setattr__" [.type "list", .type "object"] = pure () := by kernel_rfl
section
variable {w : World}
theorem f_taker : takerIn (Mine.top.heap_1 w.params) 186 "_initial_size" = some none := by kernel_rfl
theorem f_dict : (clsIn (Mine.top.heap_1 w.params) 186).any (·.hasDict) = true := by kernel_rfl
theorem f_mro : (clsIn (Mine.top.heap_1 w.params) 186).map (·.mro) = some [.ref 186, .type "list", .type "object"] := by kernel_rfl
theorem f_obj : mroIn (Mine.top.heap_1 w.params) 186 (.type "object") = some true := by kernel_rfl
end
section
variable {w : World} {A : Around} {E : Value → Shared → Prop} {s : Shared} {x : Addr} {dx : Addr} {its : Array Value} {n : Nat}
theorem acc_set {v : Value} {od : Obj} {es : List DictEntry} {k : Nat} {Q : Unit → Shared → Prop} (X : (Mine.top.heap_1 w.params).In s.heap) (hx : s.heap.get? x = some (accObj dx its n)) (hd : s.heap.get? dx = some od)
    (hl : (lookIn "_initial_size" od).isSome = true) (e : ∀ tk, ∃ es k, Obj.putName "_initial_size" (PyData.keyHash w.params "_initial_size") (.str "_initial_size" tk) v od = dictOf es k ∧ es.length ≤ 1000)
    (h : ∀ tk h', Heap.SameBut dx s.heap h' → h'.get? dx = some (Obj.putName "_initial_size" (PyData.keyHash w.params "_initial_size") (.str "_initial_size" tk) v od) → Q () { s with heap := h', toks := s.toks + 1 + 1 }) :
    wpAny (model PySem.Challenge.rw_wu0081_01.row.prog w) A (setAttr (.ref x) "_initial_size" v) Q E s := by
  obtain ⟨hh, g, d, t, os⟩ := s
  have I := acc_inst hx hd
  refine set_plain X I f_sa ?_
  obtain ⟨cd, hc, hm⟩ := Option.map_eq_some_iff.mp (f_mro (w := w))
  have SF := PySem.F.store_object
  have sub : Looks (model PySem.Challenge.rw_wu0081_01.row.prog w) hh (isInstance (.ref x) (.type "object")) true := I.type.andThen (looks_mroIn X f_obj)
  refine codeAny_call_builtin SF.slot.plain SF.entry (@check_slot (model PySem.Challenge.rw_wu0081_01.row.prog w) _ _ ⟨hh, g, d, t + 1, os⟩ "object.__setattr__" "object" "__setattr__" (.ref x) [.str "_initial_size" t, v] [] _ SF.kind SF.split sub (SF.args (.ref x) (.str "_initial_size" t) v) ?_)
  obtain ⟨attr, ha, hr⟩ := Option.bind_eq_some_iff.mp (f_taker (w := w))
  have hm' : Looks (model PySem.Challenge.rw_wu0081_01.row.prog w) hh (mroOf (.ref 186)) [.ref 186, .type "list", .type "object"] := hm ▸ (looks_clsIn X hc).andThen .now
  have L3 : Looks (model PySem.Challenge.rw_wu0081_01.row.prog w) hh (Builtin.ObjectAttr.storeTaker? attr) none := by
    cases attr with
    | none => exact .now
    | some a =>
      obtain ⟨b, hb, hb'⟩ := Option.map_eq_some_iff.mp hr
      refine (looks_takesIn X hb).andThen ?_
      cases b with
      | true => cases hb'
      | false => exact .now
  rw [osa_eq, PySem.refuse_eq]
  refine wpAny_bind (wpAny_bind (I.type.at (wpAny_bind (hm'.at ?_))))
  rw [PySem.refuseLoop_ref, refuse_list]
  refine wpAny_pure (wpAny_bind (I.type.at (wpAny_bind ((looks_findIn X ha).at (wpAny_bind (L3.at ?_))))))
  show wpAny _ _ (Builtin.ObjectAttr.storeInOwnDict _ _ _ _ _ _) _ _ _
  obtain ⟨cd', hc', hd'⟩ := any_some (f_dict (w := w))
  refine wpAny_bind (wpAny_pure (wpAny_bind (wpAny_bind (wpAny_loadPart hx (wpAny_bind ((looks_clsIn X hc').at ?_))))))
  rw [hd']
  refine wpAny_pure (a := some dx) (wpAny_bind (wpAny_pure (wpAny_bind ?_)))
  unfold nsSet
  refine wpAny_bind (wpAny_bind (wpAny_askSetting (wpAny_pure (wpAny_bind (wpAny_mkText (wpAny_bind (wpAny_loadPart hd ?_)))))))
  unfold lookIn at hl
  split at hl
  · rename_i es₀ n₀ q
    rw [q]
    dsimp only
    have c : (!es₀.any (·.key.isStr "_initial_size") && es₀.any (·.refKey)) = false := by
      rw [← Array.any_toList, ← Array.any_toList]
      split at hl
      · rename_i en he
        rw [List.any_eq_true.mpr ⟨en, List.mem_of_find?_eq_some he, List.find?_some he⟩]; rfl
      · split at hl
        · cases hl
        · rename_i z; rw [Bool.not_eq_true] at z; rw [z, Bool.and_false]
    rw [aRefKeyMayBeTheName_at, c]
    refine wpAny_updatePart hd ?_
    obtain ⟨es', k', e1, e2⟩ := e (t + 1)
    have D' : (hh.update dx (Obj.putName "_initial_size" (PyData.keyHash w.params "_initial_size") (.str "_initial_size" (t + 1)) v)).get? dx = some (Obj.putName "_initial_size" (PyData.keyHash w.params "_initial_size") (.str "_initial_size" (t + 1)) v od) := Heap.get?_update_self _ hd (by rw [e1]; rfl)
    refine wpAny_bind (wpAny_lookBehind D' (by rw [e1]; exact pastItsLine_dict (by rw [List.size_toArray, sizeLine_eq]; omega)) ?_)
    exact wpAny_pure (h _ _ (Heap.SameBut.update ..) D')
  · cases hl
end
end Mine
end

section
open PySem PySem.W PyProof.Rows PySem.Calls
set_option Elab.async false
set_option linter.unusedVariables false
set_option maxRecDepth 100000
set_option maxHeartbeats 400000
set_option pp.maxSteps 3000
set_option pp.deepTerms false
namespace Mine
abbrev bndObj (bt id : String) (x : Addr) : Obj := { cls := .type bt, dict := none, data := .fields #[.builtin id, .ref x], slots := #[] }
theorem slot_mdget : Slot "method_descriptor" "__get__" "method_descriptor.__get__" := .of (owner := "method_descriptor") (n := "__get__") (by rw [typeLookup_type, builtinLookup_eq_fast]; kernel_rfl) (by decide +kernel) (by decide +kernel) (by decide +kernel)
  (by first | exact .inl (by decide +kernel) | exact .inr (by decide +kernel)) (by rw [isSubtype_type]; kernel_rfl)
theorem entry_mdget : entryFor table "method_descriptor.__get__" = some Builtin.«method_descriptor.__get__» := entryFor_of_tree (by kernel_rfl)
theorem args_mdget (a b c : Value) : argsOk "method_descriptor.__get__" ⟨[a, b, c], []⟩ := by unfold argsOk; kernel_rfl
theorem slot_wdget : Slot "wrapper_descriptor" "__get__" "wrapper_descriptor.__get__" := .of (owner := "wrapper_descriptor") (n := "__get__") (by rw [typeLookup_type, builtinLookup_eq_fast]; kernel_rfl) (by decide +kernel) (by decide +kernel) (by decide +kernel)
  (by first | exact .inl (by decide +kernel) | exact .inr (by decide +kernel)) (by rw [isSubtype_type]; kernel_rfl)
theorem entry_wdget : entryFor table "wrapper_descriptor.__get__" = some Builtin.«wrapper_descriptor.__get__» := entryFor_of_tree (by kernel_rfl)
theorem args_wdget (a b c : Value) : argsOk "wrapper_descriptor.__get__" ⟨[a, b, c], []⟩ := by unfold argsOk; kernel_rfl
theorem type_pop : typeOf (.builtin "list.pop") = pure (.type "method_descriptor") := by show builtinType _ = _; rw [builtinType_eq_fast]; kernel_rfl
theorem type_len : typeOf (.builtin "list.__len__") = pure (.type "wrapper_descriptor") := by show builtinType _ = _; rw [builtinType_eq_fast]; kernel_rfl
theorem type_ini : typeOf (.builtin "list.__init__") = pure (.type "wrapper_descriptor") := by show builtinType _ = _; rw [builtinType_eq_fast]; kernel_rfl

theorem sub_md : isSubtype (.type "method_descriptor") (.type "method_descriptor") = pure true := by rw [isSubtype_type]; kernel_rfl
theorem sub_wd : isSubtype (.type "wrapper_descriptor") (.type "wrapper_descriptor") = pure true := by rw [isSubtype_type]; kernel_rfl
theorem kind_mdget : builtinKind "method_descriptor.__get__" = some .slot := by decide +kernel
theorem split_mdget : splitId "method_descriptor.__get__" = some ("method_descriptor", "__get__") := by decide +kernel
theorem kind_wdget : builtinKind "wrapper_descriptor.__get__" = some .slot := by decide +kernel
theorem split_wdget : splitId "wrapper_descriptor.__get__" = some ("wrapper_descriptor", "__get__") := by decide +kernel
theorem is_pop {M : Model} {h : Heap} : Looks M h (isInstance (.builtin "list.pop") (.type "method_descriptor")) true := (Looks.of_pure type_pop).andThen (Looks.of_pure sub_md)
theorem is_len {M : Model} {h : Heap} : Looks M h (isInstance (.builtin "list.__len__") (.type "wrapper_descriptor")) true := (Looks.of_pure type_len).andThen (Looks.of_pure sub_wd)
theorem is_ini {M : Model} {h : Heap} : Looks M h (isInstance (.builtin "list.__init__") (.type "wrapper_descriptor")) true := (Looks.of_pure type_ini).andThen (Looks.of_pure sub_wd)
section
variable {w : World} {A : Around} {E : Value → Shared → Prop} {h : Heap} {g : Array GenState} {d : Drawn} {t : Nat} {os : OsState} {x : Addr} {dx : Addr} {its : Array Value} {n : Nat}
theorem builtin_call {s : Shared} {id owner nm : String} {b : Builtin} {self : Value} {rest : List Value} {Q : Value → Shared → Prop} (hi : Looks (model PySem.Challenge.rw_wu0081_01.row.prog w) s.heap (isInstance self (.type owner)) true)
    (hk : builtinKind id = some .slot ∨ builtinKind id = some .method) (hs : splitId id = some (owner, nm)) (hp : plainId id = true) (hb : entryFor table id = some b) (ha : argsOk id ⟨self :: rest, []⟩)
    (hc : wpAny (model PySem.Challenge.rw_wu0081_01.row.prog w) A.in1 (b ⟨self :: rest, []⟩) (fun fin s' => ∃ v, fin = .done (.ret v) ∧ Q v s') E s) :
    wpAny (model PySem.Challenge.rw_wu0081_01.row.prog w) A (call (.builtin id) (self :: rest)) Q E s := by
  refine wpAny_call (codeAny_call_builtin hp hb (check_meth hk hs hi ha (wpAny_mono hc (fun fin s' h' => ?_) fun _ _ h' => h')))
  obtain ⟨v, rfl, hv⟩ := h'; exact hv
theorem own_pop : ".".intercalate ("list.pop".cutAt '.').dropLast = "list" := by decide +kernel
theorem bind_pop {Q : Value → Shared → Prop} (X : (Mine.top.heap_1 w.params).In h) (hx : h.get? x = some (accObj dx its n))
    (hq : Q (.ref h.objs.size) ⟨h.push (bndObj "builtin_function_or_method" "list.pop" x), g, d, t, os⟩) :
    wpAny (model PySem.Challenge.rw_wu0081_01.row.prog w) A (call (.builtin "method_descriptor.__get__") [.builtin "list.pop", .ref x, .ref 186]) Q E ⟨h, g, d, t, os⟩ := by
  have L1 := acc_islist (M := model PySem.Challenge.rw_wu0081_01.row.prog w) X hx
  have L2 : Looks (model PySem.Challenge.rw_wu0081_01.row.prog w) h (isInstance (.ref x) (.type (".".intercalate ("list.pop".cutAt '.').dropLast))) true := by rw [own_pop]; exact L1
  refine builtin_call is_pop (.inl kind_mdget) split_mdget slot_mdget.plain entry_mdget (args_mdget _ _ _) ?_
  unfold Builtin.«method_descriptor.__get__»
  repeat lk
  exact ⟨_, rfl, hq⟩
theorem own_len : ".".intercalate ("list.__len__".cutAt '.').dropLast = "list" := by decide +kernel
theorem bind_len {Q : Value → Shared → Prop} (X : (Mine.top.heap_1 w.params).In h) (hx : h.get? x = some (accObj dx its n))
    (hq : Q (.ref h.objs.size) ⟨h.push (bndObj "method-wrapper" "list.__len__" x), g, d, t, os⟩) :
    wpAny (model PySem.Challenge.rw_wu0081_01.row.prog w) A (call (.builtin "wrapper_descriptor.__get__") [.builtin "list.__len__", .ref x, .ref 186]) Q E ⟨h, g, d, t, os⟩ := by
  have L1 := acc_islist (M := model PySem.Challenge.rw_wu0081_01.row.prog w) X hx
  have L2 : Looks (model PySem.Challenge.rw_wu0081_01.row.prog w) h (isInstance (.ref x) (.type (".".intercalate ("list.__len__".cutAt '.').dropLast))) true := by rw [own_len]; exact L1
  refine builtin_call is_len (.inl kind_wdget) split_wdget slot_wdget.plain entry_wdget (args_wdget _ _ _) ?_
  unfold Builtin.«wrapper_descriptor.__get__»
  repeat lk
  exact ⟨_, rfl, hq⟩
theorem own_ini : ".".intercalate ("list.__init__".cutAt '.').dropLast = "list" := by decide +kernel
theorem bind_ini {Q : Value → Shared → Prop} (X : (Mine.top.heap_1 w.params).In h) (hx : h.get? x = some (accObj dx its n))
    (hq : Q (.ref h.objs.size) ⟨h.push (bndObj "method-wrapper" "list.__init__" x), g, d, t, os⟩) :
    wpAny (model PySem.Challenge.rw_wu0081_01.row.prog w) A (call (.builtin "wrapper_descriptor.__get__") [.builtin "list.__init__", .ref x, .ref 186]) Q E ⟨h, g, d, t, os⟩ := by
  have L1 := acc_islist (M := model PySem.Challenge.rw_wu0081_01.row.prog w) X hx
  have L2 : Looks (model PySem.Challenge.rw_wu0081_01.row.prog w) h (isInstance (.ref x) (.type (".".intercalate ("list.__init__".cutAt '.').dropLast))) true := by rw [own_ini]; exact L1
  refine builtin_call is_ini (.inl kind_wdget) split_wdget slot_wdget.plain entry_wdget (args_wdget _ _ _) ?_
  unfold Builtin.«wrapper_descriptor.__get__»
  repeat lk
  exact ⟨_, rfl, hq⟩
end
end Mine
end

section
open PySem PySem.W PyProof.Rows PySem.Calls
set_option Elab.async false
set_option linter.unusedVariables false
set_option maxRecDepth 100000
set_option maxHeartbeats 400000
set_option pp.maxSteps 3000
set_option pp.deepTerms false
namespace Mine
section
variable {w : World}
theorem f_mod : mroIn (Mine.top.heap_1 w.params) 186 (.type "module") = some false := by kernel_rfl
theorem f_tyty : typeIn (Mine.top.heap_1 w.params) (.ref 186) = some (.type "type") := by kernel_rfl
theorem f_opaque : nsIn (Mine.top.heap_1 w.params) cStatics "thirdparty.any" = some none := by kernel_rfl
theorem f_spop : alongIn (Mine.top.heap_1 w.params) "pop" [.type "list", .type "object"] = some (some (.builtin "list.pop")) := by kernel_rfl
theorem f_slen : alongIn (Mine.top.heap_1 w.params) "__len__" [.type "list", .type "object"] = some (some (.builtin "list.__len__")) := by kernel_rfl
theorem f_sini : alongIn (Mine.top.heap_1 w.params) "__init__" [.type "list", .type "object"] = some (some (.builtin "list.__init__")) := by kernel_rfl
end
theorem lk_md_get : typeLookup (.type "method_descriptor") "__get__" = pure (some (.builtin "method_descriptor.__get__")) := slot_mdget.lookup
theorem lk_wd_get : typeLookup (.type "wrapper_descriptor") "__get__" = pure (some (.builtin "wrapper_descriptor.__get__")) := slot_wdget.lookup
abbrev supObj (x : Addr) : Obj := { cls := .type "super", dict := none, data := .fields #[.ref 186, .ref x, .ref 186], slots := #[] }
section
variable {w : World} {A : Around} {E : Value → Shared → Prop} {h : Heap} {g : Array GenState} {d : Drawn} {t : Nat} {os : OsState} {x : Addr} {dx : Addr} {its : Array Value} {n : Nat}
theorem super_ga {so : Addr} {name : Str} {tk : Tok} {id bt gid : String} {v : Value} {Q : Fin → Shared → Prop}
    (hso : h.get? so = some (supObj x)) (X : (Mine.top.heap_1 w.params).In h) (hx : h.get? x = some (accObj dx its n))
    (hf : alongIn (Mine.top.heap_1 w.params) name [.type "list", .type "object"] = some (some (.builtin id))) (hty : typeOf (.builtin id) = pure (.type bt)) (hlk : typeLookup (.type bt) "__get__" = pure (some (.builtin gid)))
    (hn : (name == ("__class__" : Str)) = false) (hxC : x ≠ 186)
    (hb : wpAny (model PySem.Challenge.rw_wu0081_01.row.prog w) A (call (.builtin gid) [.builtin id, .ref x, .ref 186]) (fun v s' => Q (.done (.ret v)) s') E ⟨h, g, d, t, os⟩) :
    wpAny (model PySem.Challenge.rw_wu0081_01.row.prog w) A (Builtin.«super.__getattribute__» ⟨[.ref so, .str name tk], []⟩) Q E ⟨h, g, d, t, os⟩ := by
  have hno : Looks (model PySem.Challenge.rw_wu0081_01.row.prog w) h (opaqueClassAbove (.ref 186)) none := looks_opaque X f_opaque
  obtain ⟨cd, hc, hm⟩ := Option.map_eq_some_iff.mp (f_mro (w := w))
  have hC : Looks (model PySem.Challenge.rw_wu0081_01.row.prog w) h (mroOf (.ref 186)) [.ref 186, .type "list", .type "object"] := hm ▸ (looks_clsIn X hc).andThen .now
  have hl : ((([.ref 186, .type "list", .type "object"] : List Value).dropWhile (· != .ref 186)).drop 1) = [.type "list", .type "object"] := by decide
  have hne : (Value.ref x == Value.ref 186) = false := by simp [hxC]
  have hdt : (supObj x).data = .fields #[.ref 186, .ref x, .ref 186] := rfl
  have f0 : (#[.ref 186, .ref x, .ref 186] : Array Value)[0]? = some (.ref 186) := rfl
  have f1 : (#[.ref 186, .ref x, .ref 186] : Array Value)[1]? = some (.ref x) := rfl
  have f2 : (#[.ref 186, .ref x, .ref 186] : Array Value)[2]? = some (.ref 186) := rfl
  unfold Builtin.«super.__getattribute__»
  repeat (first
    | (with_reducible refine wpAny_field hso hdt f0 ?_) | (with_reducible refine wpAny_field hso hdt f1 ?_) | (with_reducible refine wpAny_field hso hdt f2 ?_)
    | (with_reducible refine ks_wpAny_notOpaque hno ?_)
    | (with_reducible refine Looks.at hC ?_; rw [hl])
    | (refine ks_forIn_along X (fun _ _ => rfl) rfl ?_ hf)
    | (with_reducible refine wpAny_mono hb (fun v s' hv => ?_) (fun _ _ z => z))
    | (with_reducible refine wpAny_of_eq hty ?_)
    | (with_reducible refine wpAny_of_eq hlk ?_)
    | (simp only [hn, hne, Bool.or_false, Bool.false_eq_true, if_false])
    | wp_step
    | dsimp only)
  all_goals exact hv
theorem getMethod_super {so : Addr} {name : Str} {pl : Sem Bool} {id bt gid : String} {v : Value} {Q : Value × List Value → Shared → Prop} (h2 : Heap)
    (hso : h.get? so = some (supObj x)) (X : (Mine.top.heap_1 w.params).In h) (hx : h.get? x = some (accObj dx its n))
    (hf : alongIn (Mine.top.heap_1 w.params) name [.type "list", .type "object"] = some (some (.builtin id))) (hty : typeOf (.builtin id) = pure (.type bt)) (hlk : typeLookup (.type bt) "__get__" = pure (some (.builtin gid)))
    (hn : (name == ("__class__" : Str)) = false) (hxC : x ≠ 186)
    (hb : ∀ (A : Around) (Q' : Value → Shared → Prop) (E : Value → Shared → Prop), Q' (.ref h.objs.size) ⟨h2, g, d, t + 1, os⟩ → wpAny (model PySem.Challenge.rw_wu0081_01.row.prog w) A (call (.builtin gid) [.builtin id, .ref x, .ref 186]) Q' E ⟨h, g, d, t + 1, os⟩)
    (hq : Q (.ref h.objs.size, []) ⟨h2, g, d, t + 1, os⟩) :
    wpAny (model PySem.Challenge.rw_wu0081_01.row.prog w) A (getMethod (.ref so) name pl) Q E ⟨h, g, d, t, os⟩ := by
  have hlk' := PySem.F.ks_slot_super_ga.lookup
  have hcan := PySem.F.ks_canon_super_ga
  have hT : ∀ t', (⟨h, g, d, t', os⟩ : Shared).TypeIs (.ref so) "super" := fun _ => ⟨_, hso, rfl⟩
  unfold getMethod
  refine wpAny_bind (wpAny_specialOf (hT _) hlk' ?_)
  show wpAny _ _ (if (Manifest.canonical "super.__getattribute__" != "object.__getattribute__") = true then _ else _) _ _ _
  rw [if_pos hcan]
  unfold getAttr getAttrBy
  refine wpAny_bind (wpAny_bind (wpAny_mkText (wpAny_holding (wpAny_bind (wpAny_typeOf (hT _) (wpAny_bind (wpAny_of_eq hlk' ?_)))))))
  show wpAny _ _ (getAttrByItsOwn (.ref so) (.str name t) (.type "super") (.builtin "super.__getattribute__") true false) _ _ _
  unfold getAttrByItsOwn hookBefore callGetattribute boundAndCalled
  refine wpAny_bind (wpAny_of_eq (show (if onTheHeap (.type "super") then typeLookup (.type "super") "__getattr__" else pure none) = pure none from rfl) ?_)
  refine wpAny_bind (wpAny_attempt (wpAny_holding ?_))
  show wpAny _ _ (bindSpecial (.builtin "super.__getattribute__") (.ref so) >>= _) _ _ _
  refine wpAny_bind (wpAny_of_eq (PySem.F.ks_slot_super_ga.bind _) ?_)
  refine wpAny_mono (Q := fun v s' => v = .ref h.objs.size ∧ s' = ⟨h2, g, d, t + 1, os⟩) (E := fun _ _ => False)
    (wpAny_call_entry PySem.F.ks_slot_super_ga (hT _) PySem.F.ks_entry_super_ga (super_ga (v := .none) hso X hx hf hty hlk hn hxC (hb _ _ _ ⟨_, rfl, rfl, rfl⟩)) (PySem.F.ks_gaArgs_super _ _)) (fun v s' hv => ?_) fun _ _ z => z.elim
  obtain ⟨rfl, rfl⟩ := hv
  exact wpAny_pure (wpAny_pure hq)

theorem no_mod (X : (Mine.top.heap_1 w.params).In h) (hx : h.get? x = some (accObj dx its n)) : Looks (model PySem.Challenge.rw_wu0081_01.row.prog w) h (isInstance (.ref x) (.type "module")) false :=
  (show Looks (model PySem.Challenge.rw_wu0081_01.row.prog w) h (typeOf (.ref x)) (.ref 186) from (Looks.ld hx).andThen .now).andThen (looks_mroIn X f_mod)

theorem call_bound {b : Addr} {bt id : String} {B : Builtin} {R : Result → Shared → Prop} (hbt : (bt == "builtin_function_or_method" || bt == "method-wrapper") = true) (hb : h.get? b = some (bndObj bt id x))
    (hc : ∀ (A : Around) (Q : Unit → Shared → Prop) (E : Value → Shared → Prop), Q () ⟨h, g, d, t, os⟩ → wpAny (model PySem.Challenge.rw_wu0081_01.row.prog w) A (checkBoundCall id ⟨[.ref x], []⟩) Q E ⟨h, g, d, t, os⟩) (hp : plainId id = true) (he : entryFor table id = some B)
    (hB : wpAny (model PySem.Challenge.rw_wu0081_01.row.prog w) A.in1 (B ⟨[.ref x], []⟩) (fun fin s' => ∃ v, fin = .done (.ret v) ∧ R (.ok (.ret v)) s') (fun e s' => R (.error e) s') ⟨h, g, d, t, os⟩) :
    codeAny (model PySem.Challenge.rw_wu0081_01.row.prog w) A (.call (.ref b) ⟨[], []⟩) R ⟨h, g, d, t, os⟩ := by
  refine codeAny_of_tree ?_
  show wpAny _ A.in1 (callAny (.ref b) _) _ _ _
  unfold callAny
  refine wpAny_bind (wpAny_load hb ?_)
  dsimp only
  have e1 : ((Value.type bt == Value.type "method") || (Value.type bt == Value.type "builtin_function_or_method") || (Value.type bt == Value.type "method-wrapper")) = true := by
    rcases Bool.or_eq_true_iff.mp hbt with z | z <;> (rw [eq_of_beq z]; decide)
  have e2 : (Value.type bt != Value.type "method") = true := by
    rcases Bool.or_eq_true_iff.mp hbt with z | z <;> (rw [eq_of_beq z]; decide)
  rw [if_pos e1]
  show wpAny _ _ (if (Value.type bt != Value.type "method") = true then _ else _) _ _ _
  rw [if_pos e2]
  refine wpAny_bind (hc _ _ _ (wpAny_pure ⟨plainId_quiet hp _, codeAny_builtin he ?_⟩))
  rw [Around.under_plainId hp _]
  refine wpAny_mono hB (fun fin s' h' => ?_) fun _ _ h' => h'
  obtain ⟨v, rfl, hv⟩ := h'
  exact hv
end
end Mine
end

section
open PySem PySem.W PyProof.Rows PySem.Calls
set_option Elab.async false
set_option linter.unusedVariables false
set_option maxRecDepth 100000
set_option maxHeartbeats 400000
set_option pp.maxSteps 3000
set_option pp.deepTerms false
namespace Mine
def Halt (p : Prop) : Prop := p
theorem halt_args {M : Model} {A : Around} {i : String} {sg : Manifest.Signature} {a : Args} {Q : Unit → Shared → Prop} {E : Value → Shared → Prop} {s : Shared} (h : Halt (wpAny M A (Bind.checkArgs i sg a) Q E s)) : wpAny M A (Bind.checkArgs i sg a) Q E s := h
theorem f_qual {w : World} : (clsIn (Mine.top.heap_1 w.params) 186).map (fun c => (c.mro, c.qualname)) = some ([.ref 186, .type "list", .type "object"], PySem.Str.ofString "_Accumulator") := by kernel_rfl
section
variable {w : World} {A : Around} {E : Value → Shared → Prop} {h : Heap} {g : Array GenState} {d : Drawn} {t : Nat} {os : OsState} {x : Addr} {dx : Addr} {its : Array Value} {n : Nat}
theorem chk_pop (X : (Mine.top.heap_1 w.params).In h) (hx : h.get? x = some (accObj dx its n)) {Q : Unit → Shared → Prop} (hq : Q () ⟨h, g, d, t, os⟩) :
    wpAny (model PySem.Challenge.rw_wu0081_01.row.prog w) A (checkBoundCall "list.pop" ⟨[.ref x], []⟩) Q E ⟨h, g, d, t, os⟩ := by
  obtain ⟨cd, hc, hm'⟩ := Option.map_eq_some_iff.mp (f_qual (w := w))
  have hm : cd.qualname = PySem.Str.ofString "_Accumulator" := congrArg Prod.snd hm'
  have L1 := no_mod X hx
  have L2 := looks_clsIn (M := model PySem.Challenge.rw_wu0081_01.row.prog w) X hc
  have L3 := looks_typeIn (M := model PySem.Challenge.rw_wu0081_01.row.prog w) X f_tyty
  unfold checkBoundCall
  repeat (first | (with_reducible refine halt_args ?_) | lk)
  rw [hm]
  have e : (toString (PySem.Str.ofString "_Accumulator").toString ++ toString "." ++ toString (Bind.lastOf "list.pop")) = "_Accumulator.pop" := by decide +kernel
  rw [e]
  refine wpAny_of_eq (a := ()) ?_ hq
  kernel_rfl
theorem chk_len (X : (Mine.top.heap_1 w.params).In h) (hx : h.get? x = some (accObj dx its n)) {Q : Unit → Shared → Prop} (hq : Q () ⟨h, g, d, t, os⟩) :
    wpAny (model PySem.Challenge.rw_wu0081_01.row.prog w) A (checkBoundCall "list.__len__" ⟨[.ref x], []⟩) Q E ⟨h, g, d, t, os⟩ := by
  rw [show checkBoundCall "list.__len__" ⟨[.ref x], []⟩ = pure () by kernel_rfl]
  exact wpAny_pure hq
theorem chk_ini (X : (Mine.top.heap_1 w.params).In h) (hx : h.get? x = some (accObj dx its n)) {Q : Unit → Shared → Prop} (hq : Q () ⟨h, g, d, t, os⟩) :
    wpAny (model PySem.Challenge.rw_wu0081_01.row.prog w) A (checkBoundCall "list.__init__" ⟨[.ref x], []⟩) Q E ⟨h, g, d, t, os⟩ := by
  rw [show checkBoundCall "list.__init__" ⟨[.ref x], []⟩ = pure () by kernel_rfl]
  exact wpAny_pure hq
end
end Mine
end

section
open PySem PySem.W PyProof.Rows PySem.Calls
set_option Elab.async false
set_option linter.unusedVariables false
set_option maxRecDepth 100000
set_option maxHeartbeats 400000
set_option pp.maxSteps 3000
set_option pp.deepTerms false
namespace Mine
section
variable {w : World} {A : Around} {E : Value → Shared → Prop} {h : Heap} {g : Array GenState} {d : Drawn} {t : Nat} {os : OsState} {x : Addr} {dx : Addr} {its : Array Value} {n : Nat}
theorem acc_upd {M : Model} {f : Array Value → Array Value} {Q : Unit → Shared → Prop} (hx : h.get? x = some (accObj dx its n)) (hz : its.size ≤ 1000) (hz' : (f its).size ≤ 1001)
    (hq : ∀ h', Heap.SameBut x h h' → h'.get? x = some (accObj dx (f its) (if (f its).size == its.size then n else n + 1)) → Q () ⟨h', g, d, t, os⟩) :
    wpAny M A (updateSeq x f) Q E ⟨h, g, d, t, os⟩ := by
  refine wpAny_updateSeq (s := ⟨h, g, d, t, os⟩) hx rfl (hq _ (Heap.SameBut.update ..) ?_) (by rw [sizeLine_eq]; omega) (by rw [sizeLine_eq]; omega)
  exact Heap.get?_update_self _ hx rfl
theorem run_len {Q : Value → Shared → Prop} (hx : h.get? x = some (accObj dx its n)) (hq : Q (.int its.size t) ⟨h, g, d, t + 1, os⟩) :
    wpAny (model PySem.Challenge.rw_wu0081_01.row.prog w) A (Builtin.«list.__len__» ⟨[.ref x], []⟩) (fun fin s' => ∃ v, fin = .done (.ret v) ∧ Q v s') E ⟨h, g, d, t, os⟩ := by
  unfold Builtin.«list.__len__»
  repeat lk
  exact ⟨_, rfl, hq⟩
theorem run_ini {Q : Value → Shared → Prop} (hx : h.get? x = some (accObj dx #[] n)) (hq : ∀ h', Heap.SameBut x h h' → h'.get? x = some (accObj dx #[] n) → Q .none ⟨h', g, d, t, os⟩) :
    wpAny (model PySem.Challenge.rw_wu0081_01.row.prog w) A (Builtin.«list.__init__» ⟨[.ref x], []⟩) (fun fin s' => ∃ v, fin = .done (.ret v) ∧ Q v s') E ⟨h, g, d, t, os⟩ := by
  unfold Builtin.«list.__init__»
  repeat (first | (with_reducible refine acc_upd hx (by decide) (by decide) (fun h' s' e' => ?_)) | lk)
  exact ⟨_, rfl, hq h' s' e'⟩
theorem run_pop {Q : Value → Shared → Prop} {l : List Value} {v : Value} (hl : l.length ≤ 900) (hx : h.get? x = some (accObj dx (l ++ [v]).toArray n)) (hq : ∀ h', Heap.SameBut x h h' → h'.get? x = some (accObj dx l.toArray (n + 1)) → Q v ⟨h', g, d, t, os⟩) :
    wpAny (model PySem.Challenge.rw_wu0081_01.row.prog w) A (Builtin.«list.pop» ⟨[.ref x], []⟩) (fun fin s' => ∃ v, fin = .done (.ret v) ∧ Q v s') E ⟨h, g, d, t, os⟩ := by
  unfold Builtin.«list.pop»
  repeat lk
  have e1 : (l ++ [v]).toArray.isEmpty = false := by simp
  have e2 : ((seqIndex? (-1) (l ++ [v]).toArray.size).bind fun k => Option.map (fun x => (k, x)) (l ++ [v]).toArray[k]?) = some (l.length, v) := by
    have : seqIndex? (-1) (l ++ [v]).toArray.size = some l.length := by
      simp [seqIndex?]; try omega
    rw [this]; simp
  rw [e1, if_neg (by decide), e2]
  have e3 : (l ++ [v]).toArray.eraseIdxIfInBounds l.length = l.toArray := by
    simp [Array.eraseIdxIfInBounds, List.eraseIdx_append_of_length_le]
  refine wpAny_bind (m := updateSeq x (·.eraseIdxIfInBounds l.length)) (acc_upd hx (by simp only [List.size_toArray, List.length_append, List.length_cons, List.length_nil]; omega) (by show ((l ++ [v]).toArray.eraseIdxIfInBounds l.length).size ≤ 1001; rw [e3]; simp; omega) fun h' s' e' => ?_)
  rw [e3] at e'
  have e4 : (if (l.toArray.size == (l ++ [v]).toArray.size) = true then n else n + 1) = n + 1 := by simp
  rw [e4] at e'
  exact wpAny_pure ⟨_, rfl, hq h' s' e'⟩
end
end Mine
end

section
open PySem PySem.W PyProof.Rows PySem.Calls
set_option Elab.async false
set_option linter.unusedVariables false
set_option maxRecDepth 100000
set_option maxHeartbeats 400000
set_option pp.maxSteps 3000
set_option pp.deepTerms false
namespace Mine
section
variable {w : World}
theorem f_noseq : noSeq (Mine.top.heap_1 w.params) 186 = true := by kernel_rfl
theorem f_gi : findIn (Mine.top.heap_1 w.params) (.ref 186) "__getitem__" = some (some (.builtin "list.__getitem__")) := by kernel_rfl
theorem f_si : findIn (Mine.top.heap_1 w.params) (.ref 186) "__setitem__" = some (some (.builtin "list.__setitem__")) := by kernel_rfl
theorem f_it : findIn (Mine.top.heap_1 w.params) (.ref 186) "__iter__" = some (some (.builtin "list.__iter__")) := by kernel_rfl
end
section
variable {w : World} {A : Around} {E : Value → Shared → Prop} {h : Heap} {g : Array GenState} {d : Drawn} {t : Nat} {os : OsState} {x : Addr} {dx : Addr} {its : Array Value} {n : Nat}
theorem acc_special {id : String} {name : Str} {args : List Value} {Q : Option Value → Shared → Prop} (X : (Mine.top.heap_1 w.params).In h) (hx : h.get? x = some (accObj dx its n))
    (hf : findIn (Mine.top.heap_1 w.params) (.ref 186) name = some (some (.builtin id))) (hb : ∀ self, bindSpecial (.builtin id) self = pure (.builtin id, [self]))
    (hq : wpAny (model PySem.Challenge.rw_wu0081_01.row.prog w) A (call (.builtin id) (.ref x :: args)) (fun v => Q (some v)) E ⟨h, g, d, t, os⟩) :
    wpAny (model PySem.Challenge.rw_wu0081_01.row.prog w) A (callSpecial? (.ref x) name args) Q E ⟨h, g, d, t, os⟩ := by
  have L0 : Looks (model PySem.Challenge.rw_wu0081_01.row.prog w) h (typeOf (.ref x)) (.ref 186) := (Looks.ld hx).andThen .now
  refine wpAny_bind (wpAny_bind (L0.at ((looks_findIn X hf).at (wpAny_holding ?_))))
  rw [hb]
  refine wpAny_bind (wpAny_pure (wpAny_bind (wpAny_mono hq (fun _ _ z => wpAny_pure z) fun _ _ z => z)))

theorem acc_seqKey {k : Value} {name : Str} {Q : Value → Shared → Prop} (X : (Mine.top.heap_1 w.params).In h) (hx : h.get? x = some (accObj dx its n)) (hq : Q k ⟨h, g, d, t, os⟩) :
    wpAny (model PySem.Challenge.rw_wu0081_01.row.prog w) A (sequenceKey (.ref x) k name) Q E ⟨h, g, d, t, os⟩ := by
  have L0 : Looks (model PySem.Challenge.rw_wu0081_01.row.prog w) h (typeOf (.ref x)) (.ref 186) := (Looks.ld hx).andThen .now
  unfold sequenceKey
  refine wpAny_bind (L0.at ?_)
  refine wpAny_bind ((anyM_none X f_noseq).at ?_)
  rw [if_pos (show (!false) = true from rfl)]
  exact wpAny_pure hq

theorem acc_getItem_slice {sl : Addr} {vl vu vs : Value} {lo hi st : Option Int} {Q : Value → Shared → Prop} (X : (Mine.top.heap_1 w.params).In h) (hx : h.get? x = some (accObj dx its n))
    (hs : h.IsSliceOf sl vl vu vs) (pl : IsPart vl lo) (pu : IsPart vu hi) (ps : IsPart vs st) (h0 : st ≠ some 0)
    (hq : Q (.ref h.objs.size) ⟨h.push { cls := .type "list", data := .seq (slicePick its lo hi st) }, g, d, t, os⟩)
    (hsz : its.size ≤ 1000) : wpAny (model PySem.Challenge.rw_wu0081_01.row.prog w) A (getItem (.ref x) (.ref sl)) Q E ⟨h, g, d, t, os⟩ := by
  obtain ⟨os', hos, hcs, hds⟩ := id hs
  have hTs : (⟨h, g, d, t, os⟩ : Shared).TypeIs (.ref sl) "slice" := ⟨os', hos, hcs⟩
  unfold getItem
  with_reducible refine wpAny_holding ?_
  refine wpAny_bind (acc_seqKey X hx ?_)
  refine wpAny_bind (acc_special X hx f_gi slot_list_getitem.bind
    (acc_builtin (s := ⟨h, g, d, t, os⟩) X hx (.inr (by decide +kernel)) (nm := "__getitem__") (by decide +kernel) (by decide +kernel) entry_list_getitem (args_list_getitem _ _) ?_))
  show wpAny _ _ (Builtin.List.listSubscript? (.ref sl) >>= _) _ _ _
  refine wpAny_bind ?_
  unfold Builtin.List.listSubscript?
  refine wpAny_bind (wpAny_specialOf hTs slice_no_index ?_)
  simp only [Option.isNone_none, if_true]
  refine wpAny_pure ?_
  show wpAny _ _ (typeOf (.ref sl) >>= _) _ _ _
  refine wpAny_bind (wpAny_typeOf hTs ?_)
  rw [if_neg (by decide)]
  rw [listSliceParts_eq]
  have hstep : ¬ ((rawPart st == rawInt 0) = true) := by
    cases st with
    | none => exact Bool.false_ne_true
    | some c =>
      intro hh
      have : c = 0 := by simpa [rawPart, rawInt] using hh
      exact h0 (by rw [this])
  refine wpAny_bind (wpAny_bind (wpAny_field hos hds (x := vs) rfl (wpAny_bind (wpAny_listPart ps ?_))))
  rw [if_neg hstep]
  refine wpAny_bind (wpAny_field hos hds (x := vl) rfl (wpAny_bind (wpAny_listPart pl ?_)))
  refine wpAny_bind (wpAny_field hos hds (x := vu) rfl (wpAny_bind (wpAny_listPart pu (wpAny_pure ?_))))
  refine wpAny_bind (m := Builtin.List.listItems (.ref x)) ?_
  unfold Builtin.List.listItems
  refine wpAny_bind (wpAny_seqItems hx rfl (wpAny_pure ?_))
  refine wpAny_bind (wpAny_of_eq (sliceIndices_raw lo hi st its.size h0) ?_)
  refine wpAny_bind (wpAny_newObj_type (wpAny_pure ⟨_, rfl, wpAny_pure hq⟩) (Nat.le_trans (slicePick_size_le its lo hi st) (by rw [sizeLine_eq]; omega)))

theorem acc_getItem_int {k : Int} {u : Tok} {v : Value} {Q : Value → Shared → Prop} (X : (Mine.top.heap_1 w.params).In h) (hx : h.get? x = some (accObj dx its n)) (h0 : 0 ≤ k) (hfit : k < 2 ^ 63) (hk : its[k.toNat]? = some v)
    (hq : Q v ⟨h, g, d, t, os⟩) : wpAny (model PySem.Challenge.rw_wu0081_01.row.prog w) A (getItem (.ref x) (.int k u)) Q E ⟨h, g, d, t, os⟩ := by
  unfold getItem
  with_reducible refine wpAny_holding ?_
  refine wpAny_bind (acc_seqKey X hx ?_)
  refine wpAny_bind (acc_special X hx f_gi slot_list_getitem.bind
    (acc_builtin (s := ⟨h, g, d, t, os⟩) X hx (.inr (by decide +kernel)) (nm := "__getitem__") (by decide +kernel) (by decide +kernel) entry_list_getitem (args_list_getitem _ _) ?_))
  show wpAny _ _ (Builtin.List.listSubscript? (.int k u) >>= _) _ _ _
  refine wpAny_bind (wpAny_listSubscript_int (fitsIndex_of h0 hfit) ?_)
  clear hfit
  obtain ⟨j, rfl⟩ := Int.eq_ofNat_of_zero_le h0
  have hk' : its[j]? = some v := hk
  show wpAny _ _ ((seqItemAt x j >>= fun r => pure (r.map (j, ·))) >>= _) _ _ _
  refine wpAny_bind (wpAny_bind (wpAny_seqItemAt hx rfl (wpAny_pure ?_)))
  rw [hk']
  exact wpAny_pure ⟨v, rfl, wpAny_pure hq⟩

theorem acc_setItem_slice {sl y : Addr} {vl vu : Value} {lo hi : Option Int} {ys its' : Array Value} {ny : Nat} {Q : Unit → Shared → Prop} (X : (Mine.top.heap_1 w.params).In h) (hx : h.get? x = some (accObj dx its n))
    (hs : h.IsSliceOf sl vl vu .none) (pl : IsPart vl lo) (pu : IsPart vu hi) (hy : h.get? y = some (listOf ys ny)) (hxy : x ≠ y)
    (he : its.extract 0 (sliceBounds lo hi none its.size).1.toNat ++ ys ++ its.extract (max (sliceBounds lo hi none its.size).1 (sliceBounds lo hi none its.size).2.1).toNat its.size = its')
    (h1 : (sliceBounds lo hi none its.size).2.2 = 1)
    (hq : ∀ h' n', Heap.SameBut x h h' → h'.get? x = some (accObj dx its' n') → Q () ⟨h', g, d, t, os⟩)
    (hsz : its.size ≤ 400) (hsy : ys.size ≤ 400) (hsz' : its'.size ≤ 1001) : wpAny (model PySem.Challenge.rw_wu0081_01.row.prog w) A (setItem (.ref x) (.ref sl) (.ref y)) Q E ⟨h, g, d, t, os⟩ := by
  obtain ⟨os', hos, hcs, hds⟩ := id hs
  have hTs : (⟨h, g, d, t, os⟩ : Shared).TypeIs (.ref sl) "slice" := ⟨os', hos, hcs⟩
  have hTy : (⟨h, g, d, t, os⟩ : Shared).TypeIs (.ref y) "list" := ⟨_, hy, rfl⟩
  unfold setItem
  with_reducible refine wpAny_holding ?_
  refine wpAny_bind (acc_seqKey X hx ?_)
  refine wpAny_bind (acc_special X hx f_si slot_list_setitem.bind
    (acc_builtin (s := ⟨h, g, d, t, os⟩) X hx (.inl (by decide +kernel)) (nm := "__setitem__") (by decide +kernel) (by decide +kernel) entry_list_setitem (args_list_setitem _ _ _) ?_))
  show wpAny _ _ (Builtin.List.listSubscript? (.ref sl) >>= _) _ _ _
  refine wpAny_bind ?_
  unfold Builtin.List.listSubscript?
  refine wpAny_bind (wpAny_specialOf hTs slice_no_index ?_)
  simp only [Option.isNone_none, if_true]
  refine wpAny_pure ?_
  show wpAny _ _ (typeOf (.ref sl) >>= _) _ _ _
  refine wpAny_bind (wpAny_typeOf hTs ?_)
  rw [if_neg (by decide)]
  rw [listSliceParts_eq]
  refine wpAny_bind (wpAny_bind (wpAny_field hos hds (x := .none) rfl (wpAny_bind (wpAny_listPart .none ?_))))
  rw [if_neg (show ¬ ((rawPart none == rawInt 0) = true) from Bool.false_ne_true)]
  refine wpAny_bind (wpAny_field hos hds (x := vl) rfl (wpAny_bind (wpAny_listPart pl ?_)))
  refine wpAny_bind (wpAny_field hos hds (x := vu) rfl (wpAny_bind (wpAny_listPart pu (wpAny_pure ?_))))
  have e0 : Builtin.List.listSameRef (.ref x) (.ref y) = false := by
    show (x == y) = false
    simp [hxy]
  dsimp only
  rw [e0]
  simp only [Bool.false_eq_true, if_false]
  refine wpAny_bind ?_
  unfold Builtin.List.listAllItems
  refine wpAny_bind (wpAny_typeOf hTy ?_)
  rw [if_pos (by decide)]
  unfold Builtin.List.listItems
  refine wpAny_bind (wpAny_seqItems hy rfl (wpAny_pure ?_))
  refine wpAny_bind (wpAny_bind (wpAny_seqItems hx rfl (wpAny_pure ?_)))
  refine wpAny_bind (wpAny_of_eq (sliceIndices_raw lo hi none its.size (by simp)) ?_)
  rw [h1, if_pos (by decide)]
  have e1 : Builtin.List.listTooLong (its.size + ys.size) = false := by
    unfold Builtin.List.listTooLong
    exact decide_eq_false (by rw [sizeLine_eq]; omega)
  rw [e1]
  refine wpAny_bind (wpAny_rule ?_)
  simp only [Bool.false_eq_true, if_false]
  refine wpAny_bind (m := updateSeq x (fun xs => xs.extract 0 (sliceBounds lo hi none its.size).1.toNat ++ ys ++ xs.extract (max (sliceBounds lo hi none its.size).1 (sliceBounds lo hi none its.size).2.1).toNat xs.size)) (acc_upd hx (by omega) (by rw [he]; exact hsz') fun h' s' e' => ?_)
  rw [he] at e'
  exact wpAny_bind (wpAny_letGo (wpAny_pure ⟨_, rfl, wpAny_pure (hq h' _ s' e')⟩))
end
end Mine
end

section
open PySem PySem.W PyProof.Rows PySem.Calls
set_option Elab.async false
set_option linter.unusedVariables false
set_option maxRecDepth 100000
set_option maxHeartbeats 800000
set_option pp.maxSteps 3000
set_option pp.deepTerms false
namespace Mine
def clsOk (K : Frag) : Bool := match K.lookup 186 with
  | some ⟨_, _, .cls cd, sl⟩ => !cd.abstract && !cd.hasDel && (sl.toList[4]?).join == some (.builtin "list.__new__") && cd.mro == [.ref 186, .type "list", .type "object"]
  | _ => false
section
variable {w : World}
theorem f_clsOk : clsOk (Mine.top.heap_1 w.params) = true := by kernel_rfl
theorem f_self : mroIn (Mine.top.heap_1 w.params) 186 (.ref 186) = some true := by kernel_rfl
theorem f_call : specialIn (Mine.top.heap_1 w.params) (.ref 186) "__call__" = some (some (.builtin "type.__call__")) := by kernel_rfl
theorem f_instty : instIn (Mine.top.heap_1 w.params) (.ref 186) (.type "type") = some true := by kernel_rfl
theorem f_init : findIn (Mine.top.heap_1 w.params) (.ref 186) "__init__" = some (some (.ref 123)) := by kernel_rfl
theorem f_tyinit : typeIn (Mine.top.heap_1 w.params) (.ref 123) = some (.type "function") := by kernel_rfl
end
structure AccCls (M : Model) (h : Heap) : Prop where
  obj : ∃ oc od cd sl, h.get? 186 = some ⟨oc, od, .cls cd, sl⟩ ∧ cd.abstract = false ∧ cd.hasDel = false ∧ cd.mro = [.ref 186, .type "list", .type "object"]
  made : Looks M h (Bind.madeBy (.ref 186)) (some "list.__new__")
  base : Looks M h (Bind.staticBase (.ref 186)) (.ref 186)
  self : Looks M h (isSubtype (.ref 186) (.ref 186)) true
  lst : Looks M h (isSubtype (.ref 186) (.type "list")) true
  call : Looks M h (specialOf (.ref 186) "__call__") (some (.builtin "type.__call__"))
  typ : Looks M h (isInstance (.ref 186) (.type "type")) true
theorem accCls_of {w : World} {M : Model} {h : Heap} (X : (Mine.top.heap_1 w.params).In h) : AccCls M h := by
  have e := f_clsOk (w := w)
  unfold clsOk at e
  split at e
  · rename_i oc od cd sl ho
    simp only [Bool.and_eq_true, Bool.not_eq_true', beq_iff_eq] at e
    obtain ⟨⟨⟨e1, e2⟩, e3⟩, e4⟩ := e
    have hc : clsIn (Mine.top.heap_1 w.params) 186 = some cd := by unfold clsIn; rw [ho]
    have hm : Looks M h (mroOf (.ref 186)) [.ref 186, .type "list", .type "object"] := e4 ▸ (looks_clsIn X hc).andThen .now
    have made : Looks M h (Bind.madeBy (.ref 186)) (some "list.__new__") := by
      intro A Q E s k q
      unfold Bind.madeBy
      refine wpAny_bind (hm A _ E s k ?_)
      rw [List.forIn_cons]
      refine wpAny_bind (wpAny_bind (wpAny_bind (wpAny_bind (wpAny_loadPart (k _ _ (X _ _ ho)) (wpAny_pure ?_)))))
      dsimp only
      rw [← Array.getElem?_toList, e3]
      exact wpAny_pure (wpAny_pure (wpAny_pure q))
    refine ⟨⟨oc, od, cd, sl, X _ _ ho, e1, e2, e4⟩, made, ?_, looks_mroIn X f_self, looks_mroIn X f_list, looks_specialIn X f_call, looks_instIn X f_instty⟩
    intro A Q E s k q
    unfold Bind.staticBase
    refine wpAny_bind (hm A _ E s k ?_)
    rw [List.forIn_cons]
    exact wpAny_bind (wpAny_bind (wpAny_bind (made A _ E s k (wpAny_pure (wpAny_pure (wpAny_pure q))))))
  · cases e
theorem kind_ln : builtinKind "list.__new__" = some .builtinFn := by decide +kernel
theorem split_ln : splitId "list.__new__" = some ("list", "__new__") := by decide +kernel
abbrev sigLn : Manifest.Signature := ⟨.any, "list", "list", .cls, [⟨"args", .varPos, false⟩, ⟨"kwargs", .varKw, false⟩]⟩
theorem row_ln : Manifest.signature? "list.__new__" = some sigLn := by kernel_rfl
theorem chk_ln (a : Value) (rest : List Value) (kw : List (Str × Value)) : Bind.checkArgs "list.__new__" sigLn ⟨a :: rest, kw⟩ = pure () := by kernel_rfl
section
variable {w : World} {A : Around} {E : Value → Shared → Prop} {h : Heap} {g : Array GenState} {d : Drawn} {t : Nat} {os : OsState} {R : Result → Shared → Prop}
theorem acc_new {rest : List Value} {kw : List (Str × Value)} (Y : AccCls (model PySem.Challenge.rw_wu0081_01.row.prog w) h)
    (hq : R (.ok (.ret (.ref (h.objs.size + 1)))) ⟨(h.push emptyDict).push (accObj h.objs.size #[] 0), g, d, t, os⟩) :
    codeAny (model PySem.Challenge.rw_wu0081_01.row.prog w) A (.call (.builtin "list.__new__") ⟨.ref 186 :: rest, kw⟩) R ⟨h, g, d, t, os⟩ := by
  obtain ⟨⟨oc, od, cd, sl, hC, e1, e2, e4⟩, made, base, self, lst, call, typ⟩ := Y
  refine codeAny_call_builtin_code (plainId_quiet PySem.F.plain_list_new _) ?_
  simp only [checkBuiltinCall, kind_ln, split_ln, row_ln]
  have here : Looks (model PySem.Challenge.rw_wu0081_01.row.prog w) h (Bind.madeHere "list.__new__" (.ref 186)) () := base.andThen (made.andThen (Looks.of_pure (by simp only [Option.map_some, bne_self_eq_false, Bool.false_eq_true, if_false])))
  rw [chk_ln]
  repeat (first | simp only [bne_self_eq_false, Bool.false_eq_true, if_false] | lk)
  refine codeAny_builtin_stack PySem.F.entry_list_new rfl fun p st => ?_
  rw [Around.under_plainId PySem.F.plain_list_new _]
  have hown := owner_list_new
  simp only [hown]
  have hC1 := Heap.get?_push_of_some emptyDict hC
  have hC2 := Heap.get?_push_of_some (accObj h.objs.size #[] 0) hC1
  repeat lk
  rw [e2]
  simp only [Bool.false_eq_true, if_false]
  have e5 : (h.push { cls := .type "dict", data := .dict #[] }).objs.size = h.objs.size + 1 := Heap.size_push ..
  rw [e5]
  exact wpAny_pure (wpAny_pure hq)
end
end Mine
end

section
open PySem PySem.W PyProof.Rows PySem.Calls
set_option Elab.async false
set_option linter.unusedVariables false
set_option maxRecDepth 100000
set_option maxHeartbeats 800000
set_option pp.maxSteps 3000
set_option pp.deepTerms false
namespace Mine
section
variable {w : World} {A : Around} {E : Value → Shared → Prop} {h : Heap} {g : Array GenState} {d : Drawn} {t : Nat} {os : OsState} {R : Result → Shared → Prop}
theorem acc_make {rest : List Value} {kw : List (Str × Value)} (X : (Mine.top.heap_1 w.params).In h)
    (hq : codeAny (model PySem.Challenge.rw_wu0081_01.row.prog w) (A.under (.builtin "type.__call__" ⟨.ref 186 :: rest, kw⟩)) (.call (.ref 123) ⟨.ref (h.objs.size + 1) :: rest, kw⟩) (InitBack (h.objs.size + 1) R) ⟨(h.push emptyDict).push (accObj h.objs.size #[] 0), g, d, t, os⟩) :
    codeAny (model PySem.Challenge.rw_wu0081_01.row.prog w) A (.call (.ref 186) ⟨rest, kw⟩) R ⟨h, g, d, t, os⟩ := by
  have Y := accCls_of (M := model PySem.Challenge.rw_wu0081_01.row.prog w) X
  have Y' := Y
  obtain ⟨⟨oc, od, cd, sl, hC, e1, e2, e4⟩, made, base, self, top, call, typ⟩ := Y
  have hi := looks_findIn (M := model PySem.Challenge.rw_wu0081_01.row.prog w) X f_init
  refine codeAny_of_tree ?_
  show wpAny _ _ (callAny (.ref 186) _) _ _ _
  refine nd_load hC ?_
  show wpAny _ _ (callAny.viaDunder (.ref 186) _) _ _ _
  unfold callAny.viaDunder
  refine wpAny_bind (call.at ?_)
  dsimp only
  rw [tc_bind]
  refine wpAny_bind (wpAny_pure (wpAny_bind (wpAny_pure ?_)))
  refine wpAny_pure (a := Fin.again (.call (.builtin "type.__call__") ⟨.ref 186 :: rest, kw⟩)) (And.intro rfl ?_)
  refine codeAny_call_builtin_at (Code.quiet_builtin _ (by decide +kernel)) entry_typeCall (check_slot tc_kind tc_split typ (tc_args _ _ _) ?_)
  unfold Builtin.«type.__call__»
  have hm : Looks (model PySem.Challenge.rw_wu0081_01.row.prog w) h (mroOf (.ref 186)) [.ref 186, .type "list", .type "object"] := e4 ▸ ((Looks.ld (part := none) hC).andThen .now).andThen .now
  repeat (first | with_reducible refine wpAny_call ?_ | lk)
  refine acc_new Y' ?_
  have k : ∀ b o, h.get? b = some o → ((h.push emptyDict).push (accObj h.objs.size #[] 0)).get? b = some o := fun b o e => Heap.get?_push_of_some _ (Heap.get?_push_of_some _ e)
  have hx : ((h.push emptyDict).push (accObj h.objs.size #[] 0)).get? (h.objs.size + 1) = some (accObj h.objs.size #[] 0) := by heap_get
  have t1 : Looks (model PySem.Challenge.rw_wu0081_01.row.prog w) ((h.push emptyDict).push (accObj h.objs.size #[] 0)) (typeOf (.ref (h.objs.size + 1))) (.ref 186) := (Looks.ld hx).andThen .now
  have s1 := self.keeps k
  have i1 := hi.keeps k
  have b1 := (bind_fn (M := model PySem.Challenge.rw_wu0081_01.row.prog w) X (.ref (h.objs.size + 1)) f_tyinit).keeps k
  unfold isInstance callSpecial? specialOf
  repeat (first | with_reducible refine wpAny_call ?_ | lk)
  refine codeAny_mono hq fun r s' z => ?_
  rcases r with e | (v | _ | _ | _) <;> first | exact z | exact z.elim | skip
  obtain ⟨rfl, z⟩ := z
  exact wpAny_pure (wpAny_pure z)
end
end Mine
end

section
open PySem PySem.W PyProof.Rows PySem.Calls
set_option Elab.async false
set_option linter.unusedVariables false
set_option maxRecDepth 100000
set_option maxHeartbeats 800000
set_option pp.maxSteps 3000
set_option pp.deepTerms false
namespace Mine
theorem args_sum2 (a b : Value) : argsOk "sum" ⟨[a, b], []⟩ := by unfold argsOk; kernel_rfl
section
variable {w : World} {A : Around} {E : Value → Shared → Prop} {s : Shared}
theorem sum2_walkS {x : Value} {t0 : Tok} {Q : Value → Shared → Prop}
    (h : wpAny (model PySem.Challenge.rw_wu0081_01.row.prog w) A.in1 (pyIter x) (fun it s₂ => ∃ I fp wr G n P St val, it = .ref I ∧ WalksS PySem.Challenge.rw_wu0081_01.row.prog w A.in1 I fp wr G n P St ∧ St 0 s₂ ∧ (∀ b ∈ fp, b < s₂.heap.objs.size) ∧
      (∀ i v, P i v → ∃ t, v = .int (val i) t) ∧ (∀ j, j < n → InLong (val j) ∧ InLong (preSum val (j + 1))) ∧
      ∀ s' t', Moved wr G s₂ s' → Q (.int (preSum val n) t') s') E s) :
    wpAny (model PySem.Challenge.rw_wu0081_01.row.prog w) A (call (.builtin "sum") [x, .int 0 t0]) Q E s := by
  refine call_function_tree PySem.F.kind_sum PySem.F.plain_sum PySem.F.entry_sum (args_sum2 _ _) ?_
  unfold Builtin.«sum»
  simp only [List.length_cons, List.length_nil]
  rw [if_neg (by decide)]
  refine wpAny_bind (wpAny_of_eq (show Builtin.Builtins.bindParams "sum" ["start"] 0 ⟨[.int 0 t0], []⟩ = pure [some (.int 0 t0)] from rfl) ?_)
  refine wpAny_bind (wpAny_mono h (fun it s₂ h₂ => ?_) fun _ _ e => e)
  obtain ⟨I, fp, wr, G, n, P, St, val, rfl, W, hst, hfp, hval, hfit, hQ⟩ := h₂
  dsimp only
  rw [if_pos (by decide +kernel)]
  refine wpAny_bind (wpAny_rule (wpAny_bind (wpAny_mkInt ?_)))
  refine wpAny_bind (wpAny_pure ?_)
  simp only [List.forIn_cons, List.forIn_nil]
  refine wpAny_bind (wpAny_bind (wpAny_bind (wpAny_isInstance (T := "int") (b := false) (typeIs_int _ _ _) PySem.sub_int_str ?_)))
  simp only [Bool.false_eq_true, if_false]
  refine wpAny_pure (wpAny_bind (wpAny_bind (wpAny_isInstance (T := "int") (b := false) (typeIs_int _ _ _) PySem.sub_int_bytes ?_)))
  simp only [Bool.false_eq_true, if_false]
  refine wpAny_pure (wpAny_bind (wpAny_bind (wpAny_isInstance (T := "int") (b := false) (typeIs_int _ _ _) PySem.sub_int_bytearray ?_)))
  simp only [Bool.false_eq_true, if_false]
  refine wpAny_pure (wpAny_pure ?_)
  refine wpAny_bind (wpAny_newObj_type ?_)
  have hSf : s₂.heap.objs.size ∉ fp := fun hm => Nat.lt_irrefl _ (hfp _ hm)
  refine wpAny_pure ⟨plainId_quiet PySem.F.plain_sum_loop _, codeAny_sum_loopS W val hval hfit s₂.heap.objs.size hSf n 0 _ s₂.toks 0 rfl (Nat.zero_le _)
    (W.frame 0 s₂ _ _ hst (by first | exact Nat.le_refl _ | exact Nat.le_succ _ | omega) fun b _ o e => Heap.get?_push_of_some _ e) (Heap.get?_push_size _ rfl) fun s' t' hm => ?_⟩
  exact hQ s' t' (hm.drop_new (by first | exact Nat.le_refl _ | exact Nat.le_succ _ | omega))
end
end Mine
end

section
open PySem PySem.W PyProof.Rows PySem.Calls
set_option Elab.async false
set_option linter.unusedVariables false
set_option maxRecDepth 100000
set_option maxHeartbeats 800000
set_option pp.maxSteps 3000
set_option pp.deepTerms false
namespace Mine
section
variable {prog : Program} {w : World} {A : Around} {E : Value → Shared → Prop} {s : Shared}
theorem next_item {it l : Addr} {i nl : Nat} {items : Array Value} {ol : Obj} {x : Value} {Q : Option Value → Shared → Prop} (hit : s.heap.IsListIter it l i)
    (hol : s.heap.get? l = some ol) (hdl : ol.data = .seq items nl) (hx : items[i]? = some x)
    (hQ : ∀ h', h'.IsListIter it l (i + 1) → Heap.SameBut it s.heap h' → Q (some x) { s with heap := h' }) :
    wpAny (model prog w) A (pyNext (.ref it)) Q E s := by
  obtain ⟨o, ho, hc, hd⟩ := id hit
  unfold pyNext
  refine wpAny_bind (wpAny_attempt (wpAny_callSpecial?_slot (name := Str.ofString "__next__") hit.typeIs slot_listiter_next
    (wpAny_call_entry slot_listiter_next hit.typeIs entry_listiter_next ?_ (args_listiter_next _))))
  show wpAny _ _ (field (.ref it) 0 >>= _) _ _ s
  refine wpAny_bind (wpAny_field ho hd (x := .ref l) rfl ?_)
  show wpAny _ _ (if (Value.ref l == Value.none) = true then _ else _) _ _ s
  rw [if_neg (show ¬ ((Value.ref l == Value.none) = true) from Bool.false_ne_true)]
  show wpAny _ _ (field (.ref it) 1 >>= _) _ _ s
  refine wpAny_bind (wpAny_field ho hd (x := .int i 0) rfl ?_)
  show wpAny _ _ (seqItems? (.ref l) >>= _) _ _ s
  refine wpAny_bind (wpAny_seqItems hol hdl ?_)
  simp only [Int.toNat_natCast, hx]
  refine wpAny_bind (wpAny_setField ho hd (by simp) (wpAny_pure ⟨x, rfl, wpAny_pure (hQ _ ?_ (Heap.SameBut.update ..))⟩))
  exact ⟨_, Heap.get?_update_self _ ho (Obj.isFreed_of_fields (Obj.data_mapFields hd _)), (Obj.cls_mapFields ..).trans hc, by
    rw [Obj.data_mapFields hd]; simp [rawInt]⟩

theorem next_end {it l : Addr} {i nl : Nat} {items : Array Value} {ol : Obj} {Q : Option Value → Shared → Prop} (hh : A.handled = none)
    (hit : s.heap.IsListIter it l i) (hol : s.heap.get? l = some ol) (hdl : ol.data = .seq items nl) (hx : items[i]? = none)
    (hQ : ∀ h', Heap.ExtBut it s.heap h' → Q none { s with heap := h' }) : wpAny (model prog w) A (pyNext (.ref it)) Q E s := by
  obtain ⟨o, ho, hc, hd⟩ := id hit
  unfold pyNext
  refine wpAny_bind (wpAny_attempt (wpAny_callSpecial?_slot (name := Str.ofString "__next__") hit.typeIs slot_listiter_next
    (wpAny_call_entry slot_listiter_next hit.typeIs entry_listiter_next ?_ (args_listiter_next _))))
  show wpAny _ _ (field (.ref it) 0 >>= _) _ _ s
  refine wpAny_bind (wpAny_field ho hd (x := .ref l) rfl ?_)
  show wpAny _ _ (if (Value.ref l == Value.none) = true then _ else _) _ _ s
  rw [if_neg (show ¬ ((Value.ref l == Value.none) = true) from Bool.false_ne_true)]
  show wpAny _ _ (field (.ref it) 1 >>= _) _ _ s
  refine wpAny_bind (wpAny_field ho hd (x := .int i 0) rfl ?_)
  show wpAny _ _ (seqItems? (.ref l) >>= _) _ _ s
  refine wpAny_bind (wpAny_seqItems hol hdl ?_)
  simp only [Int.toNat_natCast, hx]
  refine wpAny_bind (wpAny_rule (wpAny_bind (wpAny_setField ho hd (by simp) ?_)))
  show wpAny _ _ (newExc (.type "StopIteration") [] >>= _) _ _ _
  refine wpAny_bind ?_
  simp only [newExc, newTuple]
  refine wpAny_bind (wpAny_newObj_type ?_ (by size_fits))
  refine wpAny_bind (m := firstArgMember _ _) (wpAny_of_eq (a := Value.none) (by first | rfl | (simp only [firstArgMember]; rfl)) ?_)
  refine wpAny_newObj_type ?_ (by size_fits)
  simp only [raiseNew]
  refine wpAny_bind (wpAny_handled ?_)
  rw [show A.in1.handled = none from hh]
  refine wpAny_bind (wpAny_pure (wpAny_throw ?_))
  refine wpAny_bind (wpAny_isInstance (T := "StopIteration") (b := true) ⟨_, Heap.get?_push_size _ rfl, rfl⟩ isSubtype_stop ?_)
  exact wpAny_pure (hQ _ (((Heap.SameBut.update ..).extBut.push _).push _))
end

abbrev WI := Addr × Tok × Str × Tok
abbrev pairVals (p : WI) : Array Value := #[.str " " p.2.1, .str p.2.2.1 p.2.2.2]
abbrev tupObj (vs : Array Value) : Obj := { cls := .type "tuple", data := .seq vs }
def refsOf (ws : List WI) : Array Value := (ws.map fun p => Value.ref p.1).toArray
def Pairs (h : Heap) (ws : List WI) : Prop := ∀ p ∈ ws, h.get? p.1 = some (tupObj (pairVals p))
theorem Pairs.isTuple {h : Heap} {ws : List WI} (P : Pairs h ws) {p : WI} (hp : p ∈ ws) : h.IsTuple p.1 (pairVals p) := ⟨_, P p hp, rfl, _, rfl⟩
theorem refs_size (ws : List WI) : (refsOf ws).size = ws.length := by simp [refsOf]

theorem accWalk {prog : Program} {w : World} {A : Around} (hh : A.handled = none) (I x dx : Addr) (n : Nat) (ws : List WI) (hne : x ≠ I) (hTI : ∀ p ∈ ws, p.1 ≠ I) :
    WalksU prog w A I (I :: x :: ws.map (·.1)) [I] ws.length (fun j v => ∃ p, ws[j]? = some p ∧ v = pairVals p)
      (fun j h => h.IsListIter I x j ∧ h.get? x = some (accObj dx (refsOf ws) n) ∧ Pairs h ws)
      (fun j T h => (∃ p, ws[j]? = some p ∧ T = p.1) ∧ h.IsListIter I x (j + 1) ∧ h.get? x = some (accObj dx (refsOf ws) n) ∧ Pairs h ws) where
  sub := fun b hb => by simp at hb; simp [hb]
  frame := fun _ h h' st hk => by
    obtain ⟨⟨o, e, r⟩, e2, P⟩ := st
    exact ⟨⟨o, hk I (by simp) o e, r⟩, hk x (by simp) _ e2, fun p hp => hk p.1 (by simp only [List.mem_cons, List.mem_map]; exact .inr (.inr ⟨p, hp, rfl⟩)) _ (P p hp)⟩
  item := fun i s Q E hi st hQ => by
    obtain ⟨hit, hx, P⟩ := st
    have hp : ws[i]? = some ws[i] := List.getElem?_eq_getElem hi
    have hm : ws[i] ∈ ws := List.getElem_mem hi
    refine next_item hit hx rfl (x := .ref (ws[i]).1) (by simp [refsOf, hi]) fun h' hit' hs' => ?_
    have P' : Pairs h' ws := fun p hp => (hs'.2 p.1 (hTI p hp)).trans (P p hp)
    have hx' := (hs'.2 x hne).trans hx
    exact hQ (ws[i]).1 (pairVals ws[i]) h' s.toks ⟨_, hp, rfl⟩ (P'.isTuple hm) ⟨⟨_, hp, rfl⟩, hit', hx', P'⟩ fun b o hb e => (hs'.2 b fun h => hb (by simp [h])).trans e
  go := fun _ _ _ _ _ s Q _ hm hQ => wpAny_letOwnedTupleGo_listiter hm.2.1 (hQ s.heap hm.2 fun _ _ _ e => e)
  apart := fun j T _ hm hmem => by
    obtain ⟨⟨p, hp, rfl⟩, _⟩ := hm
    exact hTI p (List.mem_of_getElem? hp) (List.mem_singleton.mp hmem)
  done := fun s Q E st hQ => next_end hh st.1 st.2.1 rfl (by simp [refsOf]) fun h' he' => hQ h' s.toks fun b o hb e => he' b o (fun h => hb (by simp [h])) e
  self := fun _ _ _ _ st hQ => wpAny_pyIter_listiter st.1 hQ

section
variable {w : World} {A : Around} {E : Value → Shared → Prop} {h : Heap} {g : Array GenState} {d : Drawn} {t : Nat} {os : OsState} {x : Addr} {dx : Addr} {its : Array Value} {n : Nat}
theorem acc_iter {Q : Value → Shared → Prop} (X : (Mine.top.heap_1 w.params).In h) (hx : h.get? x = some (accObj dx its n))
    (hQ : Q (.ref h.objs.size) ⟨h.push { cls := .type "list_iterator", data := .fields #[.ref x, .int 0 0] }, g, d, t, os⟩) :
    wpAny (model PySem.Challenge.rw_wu0081_01.row.prog w) A (pyIter (.ref x)) Q E ⟨h, g, d, t, os⟩ := by
  have L0 : Looks (model PySem.Challenge.rw_wu0081_01.row.prog w) h (typeOf (.ref x)) (.ref 186) := (Looks.ld hx).andThen .now
  have L1 := looks_findIn (M := model PySem.Challenge.rw_wu0081_01.row.prog w) X f_it
  unfold pyIter
  repeat lk
  have fin : wpAny (model PySem.Challenge.rw_wu0081_01.row.prog w) A (call (.builtin "list.__iter__") [.ref x] >>= fun r => pure (some r)) (fun a s' =>
      wpAny (model PySem.Challenge.rw_wu0081_01.row.prog w) A (match a with
          | some it => do
            match ← specialOf it "__next__" with
              | none => do
                rule "iter.non-iterator"
                raiseErrorMade "TypeError" (toString "iter() returned non-iterator of type '" ++ toString (← typeNameOf it) ++ toString "'")
              | some val => pure it
          | none => do
            match ← bindSpecialIfBound? (.ref x) "__getitem__" with
              | none => do
                rule "iter.not-iterable"
                raiseErrorMade "TypeError" (toString "'" ++ toString (← typeNameOf (.ref x)) ++ toString "' object is not iterable")
              | some val => do
                rule "iter.getitem-fallback"
                newFields "iterator" [.ref x, ← mkInt 0]) Q E s') E ⟨h, g, d, t, os⟩ := by
    refine wpAny_bind (acc_builtin (s := ⟨h, g, d, t, os⟩) X hx (.inl (by decide +kernel)) (nm := "__iter__") (by decide +kernel) (by decide +kernel) entry_list_iter (args_list_iter _) ?_)
    show wpAny _ _ (do ret (← newFields "list_iterator" [.ref x, rawInt 0])) _ _ _
    exact wpAny_bind (wpAny_newObj_type (wpAny_pure ⟨_, rfl, wpAny_pure (wpAny_bind (wpAny_specialOf (T := "list_iterator") ⟨_, Heap.get?_push_size _ rfl, rfl⟩ slot_listiter_next.lookup (wpAny_pure hQ)))⟩))
  split
  · rw [slot_list_iter.bind]
    refine wpAny_bind (wpAny_pure (wpAny_pure ?_))
    exact fin
  · rw [slot_list_iter.bind]
    refine wpAny_tryCatch (wpAny_bind (wpAny_pure (wpAny_pure ?_)))
    exact fin
end
end Mine
end

section
open PySem PySem.W PyProof.Rows PySem.Calls
set_option Elab.async false
set_option linter.unusedVariables false
set_option maxRecDepth 100000
set_option maxHeartbeats 800000
set_option pp.maxSteps 3000
set_option pp.deepTerms false
namespace Mine
theorem gen_code {M : Model} {A : Around} {E : Value → Shared → Prop} {s : Shared} {env : Env} {c P : Addr} {ps : Array Value} {pos : Pos} {qualname : Str} {scope : Scope} {Q : Value → Shared → Prop}
    (hc : env.code = .ref c) (H : CodeHd s.heap c P) (hP : s.heap.get? P = some (tabObj ps)) (ht : TriplesOk ps.toList)
    (hQ : ∀ code h' tk ps', Heap.ExtBut P s.heap h' → h'.get? P = some (tabObj ps') → TriplesOk ps'.toList → Q code { s with heap := h', toks := tk }) :
    wpAny M A (genexprCode env pos qualname scope) Q E s := by
  cases hnf : codeAmong pos ps.toList with
  | some c' => exact wpAny_genexprCode_hit hc (H.code hP ht) hnf (hQ c' s.heap s.toks ps (Heap.ExtBut.refl _ _) hP ht)
  | none =>
    refine wpAny_genexprCodeX hc (H.code hP ht) (H.tab hP) hnf fun c' h' tk he h1 h2 hcode hrec htab _ => ?_
    refine hQ _ h' tk _ he htab.2 ?_
    rw [Array.toList_append]
    exact TriplesOk_snoc _ _ _ _ ht

theorem pass_all (n : Nat) : passing (fun _ => true) n 0 = List.range n := by simp [passing]

section
variable {w : World} {mean : ExcName → Option Value} {mg mb : Str → Option Value} {A : Around} {E : Value → Shared → Prop} {h : Heap} {g : Array GenState} {d : Drawn} {t : Nat} {os : OsState} {x : Addr} {dx : Addr} {n : Nat}

theorem gen_pairs {env : Env} {elt iter : Expr} {pa pb pt pos : Pos} {kt : Nat} {scope : Scope} {c tb : Addr} {ps : Array Value} {ws : List WI} {F : Nat → Value → Prop} {Q : Value → Shared → Prop}
    (hh : A.handled = none) (hroom : A.depth < recursionLimit) (hco : scope.isCoroutine = false) (hclos : closureFor scope env = pure []) (hcell : ∀ y ∈ scope.names, y.2 ≠ .cell) (h0 : scope.names.lookup (".0" : Str) = some NameKind.local)
    (hxa : scope.names.lookup ("fws" : Str) = some .local) (hxb : scope.names.lookup ("part" : Str) = some .local) (hkind : scope.kind = .function)
    (hgl : env.globals = mainGlobals) (hc : env.code = .ref c) (X : (Mine.top.heap_1 w.params).In h) (T : Top topProg (looseW Mine.top.view_1 [Str.ofString "_safe_string", Str.ofString "_Accumulator"] ++ List.map (fun x => x.name) (recsOf Mine.top.view_1) ++ List.map (fun x => x.fst) (litsOf Mine.top.view_1) ++ List.map (fun x => x.name) (clssOf Mine.top.view_1 (looseW Mine.top.view_1 [Str.ofString "_safe_string", Str.ofString "_Accumulator"]))) mean mg mb h) (hx : h.get? x = some (accObj dx (refsOf ws) n)) (P : Pairs h ws)
    (H : CodeHd h c tb) (hP : h.get? tb = some (tabObj ps)) (ht : TriplesOk ps.toList)
    (hiter : ∀ (Q' : Value → Shared → Prop), Q' (.ref x) ⟨h, g, d, t, os⟩ → wpAny (model PySem.Challenge.rw_wu0081_01.row.prog w) A (eval iter env) Q' E ⟨h, g, d, t, os⟩)
    (helt : ∀ (A' : Around) E' (i : Nat) (p : WI) (s₂ : Shared) (C : Addr) (code : Value) m₂, A'.handled = none → ws[i]? = some p → s₂.heap.Ns C m₂ → m₂ "fws" = some (.str " " p.2.1) → m₂ "part" = some (.str p.2.2.1 p.2.2.2) →
      s₂.heap.Ns mainGlobals mg → s₂.heap.Ns builtinsNs mb → wpAny (model PySem.Challenge.rw_wu0081_01.row.prog w) A' (eval elt (genEnv scope [] C code builtinsNs env)) (fun y s₃ => F i y ∧ Keeps s₂ s₃) E' s₂)
    (hs : ∀ x, genFold iter env x = pure x)
    (hQ : ∀ a h₅ tk gs ps' fpG wrG St, gs.bare = true → (∀ b o, b ≠ tb → h.get? b = some o → h₅.get? b = some o) → h₅.get? tb = some (tabObj ps') → TriplesOk ps'.toList → h.objs.size ≤ a →
      WalksS PySem.Challenge.rw_wu0081_01.row.prog w A.in4 a fpG wrG (GenOnlyQ g.size) ws.length F St → (∀ b ∈ fpG, b < h₅.objs.size) → (∀ b ∈ wrG, h.objs.size ≤ b) → h₅.IsGen a g.size → (∀ i s, St i s → s.TypeIs (.ref a) "generator") → a ∈ fpG →
      St 0 ⟨h₅, g.push gs, d, tk, os⟩ → Q (.ref a) ⟨h₅, g.push gs, d, tk, os⟩) :
    wpAny (model PySem.Challenge.rw_wu0081_01.row.prog w) A (eval (.GeneratorExp elt [⟨.Tuple [.Name "fws" pa, .Name "part" pb] kt pt, iter, [], 0⟩] scope pos) env) Q E ⟨h, g, d, t, os⟩ := by
  have hxlt : x < h.objs.size := Heap.lt_size hx
  have htlt : tb < h.objs.size := Heap.lt_size hP
  have hxt : x ≠ tb := fun e => by rw [e, hP] at hx; cases hx
  have hPlt : ∀ p ∈ ws, p.1 < h.objs.size := fun p hp => Heap.lt_size (P p hp)
  have hPt : ∀ p ∈ ws, p.1 ≠ tb := fun p hp e => by have := P p hp; rw [e, hP] at this; cases this
  refine wpAny_GeneratorExp_walksQT (cl := []) hh hco hclos hcell h0 hxa hxb (by decide) hkind hroom (hiter _ (acc_iter X hx ?_)) hs
  refine ⟨(T.nolimit.keeps fun b o e => Heap.get?_push_of_some _ e), ?_⟩
  refine gen_code (s := ⟨_, g, d, t, os⟩) hc (H.keeps fun b o e => Heap.get?_push_of_some _ e) (Heap.get?_push_of_some _ hP) ht fun code h₃ tk₃ ps' he₃ hP₃ ht₃ => ?_
  have up : ∀ b o, b ≠ tb → h.get? b = some o → h₃.get? b = some o := fun b o hb e => he₃ b o hb (Heap.get?_push_of_some _ e)
  have nsUp : ∀ {a mm}, h.Ns a mm → h₃.Ns a mm := fun {a mm} N => N.at' fun o e => up a o (fun q => by
    obtain ⟨o', es, ep, e', hd', r⟩ := N
    rw [q, hP] at e'
    cases e'; cases hd') e
  have T3g := nsUp T.g
  have T3b := nsUp T.b
  obtain ⟨bm, ob, b1, b2, b3, b4, b5, b6⟩ := T.bmain
  have nl3 : h₃.NoLimit := let ⟨mc, q1, q2⟩ := T.nolimit; ⟨mc, nsUp q1, q2⟩
  have hIlt : h.objs.size < h₃.objs.size := by
    have e1 : (h.push { cls := .type "list_iterator", data := .fields #[.ref x, .int 0 0] }).get? h.objs.size = some { cls := .type "list_iterator", data := .fields #[.ref x, .int 0 0] } := Heap.get?_push_size _ rfl
    exact Heap.lt_size (he₃ _ _ (Nat.ne_of_gt htlt) e1)
  rw [hgl]
  refine wpAny_builtinsFor (s := ⟨h₃, g, d, tk₃, os⟩) T3g b1 b2 (up bm ob (fun q => by rw [q, hP] at b3; cases b3; cases b4) b3) b4 b5 b6 ?_
  have W := fun (A' : Around) (hA : A'.handled = none) => accWalk (prog := PySem.Challenge.rw_wu0081_01.row.prog) (w := w) hA h.objs.size x dx n ws (Nat.ne_of_lt hxlt) fun p hp => Nat.ne_of_lt (hPlt p hp)
  refine ⟨_, _, _, _, _, _, _, (fun _ => true), F, rfl, W, (fun i vals hv => ?_), ?_, ?_, nl3, ?_, ?_, ?_⟩
  · obtain ⟨p, _, rfl⟩ := hv; exact ⟨_, _, rfl⟩
  · refine ⟨⟨_, he₃ _ _ (Nat.ne_of_gt htlt) (Heap.get?_push_size _ rfl), rfl, rfl⟩, up _ _ hxt hx, fun p hp => up _ _ (hPt p hp) (P p hp)⟩
  · intro b hb
    rcases List.mem_cons.mp hb with rfl | hb
    · exact hIlt
    · rcases List.mem_cons.mp hb with rfl | hb
      · exact Heap.lt_size (up _ _ hxt hx)
      · obtain ⟨p, hp, rfl⟩ := List.mem_map.mp hb
        exact Heap.lt_size (up _ _ (hPt p hp) (P p hp))
  · intro hm
    have e := List.mem_singleton.mp hm
    obtain ⟨mc, q1, _⟩ := T.nolimit
    exact absurd q1.lt (e ▸ Nat.lt_irrefl _)
  · intro href hk
    refine ⟨fun A' E' i va vb s₂ m₂ hA hv hn ha hb hal => ?_, fun A' E' i va vb s₂ m₂ hA hv hpz hn ha hb hal => ?_⟩
    · exact wpAny_pure ⟨rfl, s₂.heap, s₂.toks, rfl, fun _ _ e => e⟩
    · obtain ⟨p, hp, e⟩ := hv
      have e1 : va = .str " " p.2.1 ∧ vb = .str p.2.2.1 p.2.2.2 := by simpa [pairVals] using congrArg Array.toList e
      obtain ⟨rfl, rfl⟩ := e1
      have keepNs : ∀ {a mm}, h₃.Ns a mm → a < h.objs.size → s₂.heap.Ns a mm := fun {a mm} N hl => N.at' fun o e =>
        hal a (List.mem_range.mpr (Nat.lt_trans hl hIlt)) (fun q => Nat.lt_irrefl _ (List.mem_singleton.mp q ▸ hl)) o (hk a o e)
      exact helt A' E' i p s₂ _ code m₂ hA hp hn ha hb (keepNs T3g T.g.lt) (keepNs T3b T.b.lt)
  · intro a h₅ tk gs hb hlt hsz hk WS hG
    rw [pass_all] at WS
    have hF : ∀ j y, (∃ i, (List.range ws.length)[j]? = some i ∧ F i y) → F j y := fun j y ⟨i, hi, hf⟩ => by
      have := List.getElem?_eq_some_iff.mp hi
      obtain ⟨hl, he⟩ := this
      rw [List.getElem_range] at he
      exact he ▸ hf
    have WS' : WalksS PySem.Challenge.rw_wu0081_01.row.prog w A.in4 a (a :: h₃.objs.size :: List.range h₃.objs.size) (h₃.objs.size :: [h.objs.size]) (GenOnlyQ g.size) ws.length F _ :=
      { sub := WS.sub, grefl := WS.grefl, gtrans := WS.gtrans, frame := WS.frame,
        item := fun i s Q E hi st hQ => WS.item i s Q E (by simpa using hi) st fun v s' hP => hQ v s' (hF i v hP),
        done := fun s Q E st hQ => WS.done s Q E (by simpa using st) hQ, self := WS.self }
    refine hQ a h₅ tk gs ps' _ _ _ hb (fun b o hbt e => hk b o (up b o hbt e)) (hk _ _ hP₃) ht₃ (Nat.le_of_lt (Nat.lt_trans hIlt hlt)) WS' ?_ ?_ hG.1 (fun i s st => st.1.typeIs) (List.mem_cons_self ..) hG
    · intro b hb
      have e : h₅.objs.size = a + 1 := hsz
      have e2 : h₃.objs.size < a := hlt
      have key : ∀ c : Nat, c ≤ a → c < h₅.objs.size := fun c hc => by rw [e]; exact Nat.lt_succ_of_le hc
      rcases List.mem_cons.mp hb with e3 | hb
      · exact key b (Nat.le_of_eq e3)
      · rcases List.mem_cons.mp hb with e3 | hb
        · exact key b (e3 ▸ Nat.le_of_lt e2)
        · exact key b (Nat.le_of_lt (Nat.lt_trans (List.mem_range.mp hb) e2))
    · intro b hb
      rcases List.mem_cons.mp hb with rfl | hb
      · exact Nat.le_of_lt hIlt
      · exact Nat.le_of_eq (List.mem_singleton.mp hb).symm
end
end Mine
end

section
open PySem PySem.W PyProof.Rows PySem.Calls
set_option Elab.async false
set_option linter.unusedVariables false
set_option maxRecDepth 100000
set_option maxHeartbeats 800000
set_option pp.maxSteps 6000
set_option pp.deepTerms false
namespace Mine
theorem f_codeHd152 {w : World} : codeHdIn (Mine.top.heap_1 w.params) 152 148 = true := by kernel_rfl
theorem f_codeHd159 {w : World} : codeHdIn (Mine.top.heap_1 w.params) 159 155 = true := by kernel_rfl
theorem f_nolen {w : World} : nsIn (Mine.top.heap_1 w.params) mainGlobals "len" = some none := by kernel_rfl
theorem f_nosum {w : World} : nsIn (Mine.top.heap_1 w.params) mainGlobals "sum" = some none := by kernel_rfl
theorem boot_len' : bootBuiltins "len" = some (.builtin "len") := by decide +kernel
theorem boot_sum' : bootBuiltins "sum" = some (.builtin "sum") := by decide +kernel

def rowLen : List WI → Int
  | [] => 0
  | p :: r => 1 + p.2.2.1.length + rowLen r

section
variable {prog : Program} {w : World} {A : Around} {E : Value → Shared → Prop} {s : Shared}
theorem gl_builtin {env : Env} {x : Str} {pos : Pos} {mg mb : Str → Option Value} {v : Value} {Q : Value → Shared → Prop} (hk : env.scope.kind = .function) (hx : env.kindOf x = some .globalImplicit)
    (hg : s.heap.Ns env.globals mg) (hm : mg x = none) (hb : s.heap.Ns env.builtins mb) (hv : mb x = some v) (h : Q v s) (hd : (x == ("__debug__" : Str)) = false) :
    wpAny (model prog w) A (eval (.Name x pos) env) Q E s := Name_function_global hk hx (loadGlobal_builtin hg hm hb hv h) hd
theorem len_of_str {env : Env} {x : Str} {p1 p2 p3 : Pos} {m mg mb : Str → Option Value} {v : Str} {u : Tok} {Q : Value → Shared → Prop} (hk : env.scope.kind = .function) (hl : env.kindOf x = some .local) (hx : env.kindOf "len" = some .globalImplicit)
    (hn : s.heap.Ns env.locals m) (hmx : m x = some (.str v u)) (hg : s.heap.Ns env.globals mg) (hm : mg "len" = none) (hb : s.heap.Ns env.builtins mb) (hv : mb "len" = some (.builtin "len")) (hd : (x == ("__debug__" : Str)) = false)
    (hfit : v.length < 2 ^ 60) (hq : Q (.int v.length (s.toks + 1)) { s with toks := s.toks + 1 + 1 }) :
    wpAny (model prog w) A (eval (.Call (.Name "len" p1) [.Name x p2] [] p3) env) Q E s := by
  refine Call_Name1 (gl_builtin hk hx hg hm hb hv ?_ (by decide))
  refine callWith_builtin rfl (evalArgs_plain (spliced_cons (wpAny_Name (wpAny_loadName_local hk hl hn hmx ?_) hd)))
  refine spliced_nil ?_
  exact PySem.P.len_str (by omega) hq
end
end Mine
end

section
open PySem PySem.W PyProof.Rows PySem.Calls
set_option Elab.async false
set_option linter.unusedVariables false
set_option maxRecDepth 100000
set_option maxHeartbeats 800000
set_option pp.maxSteps 700
set_option pp.deepTerms false
namespace Mine
theorem fr_mod {h₀ h h' : Heap} {L tb : Addr} {m : Str → Option Value} (F : Fr h₀ L h m) (hk : ∀ b o, b ≠ tb → h.get? b = some o → h'.get? b = some o) (hL : L ≠ tb) (h0 : h₀.get? tb = none) : Fr h₀ L h' m :=
  ⟨F.ns.at' fun o e => hk L o hL e, fun b o e => hk b o (fun q => by rw [q, h0] at e; cases e) (F.keep b o e), F.above⟩
theorem news_mod {h₀ h h' : Heap} {L tb : Addr} {o o' : Obj} {news : List (Addr × Obj)} (N : News h₀ L h ((tb, o) :: news)) (hk : ∀ b o, b ≠ tb → h.get? b = some o → h'.get? b = some o)
    (hnt : ∀ p ∈ news, p.1 ≠ tb) (ho : h'.get? tb = some o') : News h₀ L h' ((tb, o') :: news) := by
  intro p hp
  rcases List.mem_cons.mp hp with rfl | hp
  · have z := N (tb, o) (.head _); exact ⟨ho, z.2⟩
  · have z := N p (.tail _ hp); exact ⟨hk _ _ (hnt p hp) z.1, z.2⟩
theorem rowLen_pre (ws : List WI) : ∀ k, k ≤ ws.length → preSum (fun i => (ws[i]?.map fun p => (1 + p.2.2.1.length : Int)).getD 0) k = rowLen (ws.take k) := by
  intro k
  induction k with
  | zero => intro _; rfl
  | succ k ih =>
    intro hk
    have e1 : ws[k]? = some ws[k] := List.getElem?_eq_getElem hk
    rw [preSum, ih (by omega), List.take_succ_eq_append_getElem hk]
    have app : ∀ (l : List WI) (p : WI), rowLen (l ++ [p]) = rowLen l + (1 + p.2.2.1.length) := by
      intro l p
      induction l with
      | nil => simp [rowLen]
      | cons q r ihr => simp only [List.cons_append, rowLen, ihr]; omega
    rw [app, e1]; rfl
theorem rowLen_bound : ∀ (ws : List WI), (∀ p ∈ ws, p.2.2.1.length ≤ 1000) → 0 ≤ rowLen ws ∧ rowLen ws ≤ 1001 * ws.length
  | [], _ => by simp [rowLen]
  | p :: r, h => by
    have ih := rowLen_bound r fun q hq => h q (.tail _ hq)
    have := h p (.head _)
    simp only [rowLen, List.length_cons]
    omega
theorem lena_ok {w : World} {mean : ExcName → Option Value} {mg mb : Str → Option Value} : ∀ (dp un : Nat) (gd : Option (List Code)) (cn : Str) (cs : Scope) (a : Addr) (ccd : Value) (cl : List (Str × Addr)) (outer : List Env) (A₀ : Around) (base h₀ : Heap) (L : Addr) (m : Str → Option Value) (news : List (Addr × Obj)) (s : Shared) (Q E : Value → Shared → Prop) (x dx : Addr) (ws : List WI) (n : Nat) (hs : Int) (u z : Tok) (p1 : Array Value),
    ∀ (hB : Below A₀ base outer h₀) (hF : Fr h₀ L s.heap m) (hX : (Mine.top.heap_1 w.params).In h₀) (hN : News h₀ L s.heap ((148, tabObj p1) :: news)) (hT : Top topProg (looseW Mine.top.view_1 [Str.ofString "_safe_string", Str.ofString "_Accumulator"] ++ List.map (fun x => x.name) (recsOf Mine.top.view_1) ++ List.map (fun x => x.fst) (litsOf Mine.top.view_1) ++ List.map (fun x => x.name) (clssOf Mine.top.view_1 (looseW Mine.top.view_1 [Str.ofString "_safe_string", Str.ofString "_Accumulator"]))) mean mg mb h₀) (hk : cs.kind = .function)
    (hd : dp + 5 < recursionLimit) (hu : un + 40 < cLine) (hG : AllBare s.gens) (ht1 : TriplesOk p1.toList)
    (hx : (x, accObj dx (refsOf ws) n) ∈ news) (hdx : (dx, iniOf hs u (.int 0 z)) ∈ news) (hws : ∀ p ∈ ws, (p.1, tupObj (pairVals p)) ∈ news) (hnt : ∀ p ∈ news, p.1 ≠ 148) (hwl : ws.length ≤ 100) (hwb : ∀ p ∈ ws, p.2.2.1.length ≤ 1000)
    (hret : ∀ r h' tk' g' p1', Fr h₀ L h' m → News h₀ L h' ((148, tabObj p1') :: news) → AllBare g' → TriplesOk p1'.toList → Q (.int (rowLen ws) r) { s with heap := h', gens := g', toks := tk' }),
    wpAny (model PySem.Challenge.rw_wu0081_01.row.prog w) (ktrTop dp un gd cn cs L a ccd cl outer) (call (.ref 153) [.ref x]) Q E s := by
  k_fill
  intro dp un gd cn cs a ccd cl outer A₀ base h₀ L m news s Q E x dx ws n hs u z p1 B F X N T hk hd hu hG ht1 hx hdx hws hnt hwl hwb hret
  obtain ⟨sh, sg, sd, st, so⟩ := s
  refine wpAny_call ?_
  k_dflt ktr_enter
  rename_i g' L' h' FG' F' N' B' X' T'
  have Xh := X'.keeps F'.keep
  have Th := T'.keeps F'.keep
  have mln := mg_none_of X' T'.g (f_nolen (w := w))
  have msm := mg_none_of X' T'.g (f_nosum (w := w))
  have bln : mb "len" = some (.builtin "len") := (T'.builtins _ (by decide +kernel)).trans boot_len'
  have bsm : mb "sum" = some (.builtin "sum") := (T'.builtins _ (by decide +kernel)).trans boot_sum'
  have hxh : h'.get? x = some (accObj dx (refsOf ws) n) := (N' _ (.tail _ hx)).1
  have hdh : h'.get? dx = some (iniOf hs u (.int 0 z)) := (N' _ (.tail _ hdx)).1
  have hPh : Pairs h' ws := fun p hp => (N' _ (.tail _ (hws p hp))).1
  have htb : h'.get? 148 = some (tabObj p1) := (N' _ (.head _)).1
  have hL' : L' ≠ 148 := fun e => (N' _ (.head _)).2.1 e.symm
  have hg0 : g'.get? 148 = none := (N' _ (.head _)).2.2
  refine wpAny_execs_cons (wpAny_Return_some ?_)
  refine Call_Name2 (gl_builtin rfl rfl Th.g msm Th.b bsm ?_ (by decide))
  refine callWith_builtin rfl (evalArgs_plain (spliced_cons ?_))
  refine gen_pairs (F := fun i v => ∃ t, v = .int ((ws[i]?.map fun p => (1 + p.2.2.1.length : Int)).getD 0) t) (ws := ws) rfl (by simp only [depth_deeper]; omega) rfl rfl (by decide) rfl rfl rfl rfl rfl rfl Xh Th hxh hPh (codeHd_of_K Xh f_codeHd152) htb ht1 (fun Q' hq => ?_) ?_ (fun _ => rfl) ?_
  · exact wpAny_Name (wpAny_loadName_local rfl rfl F'.ns rfl hq) (by decide)
  · intro A' E' i p s₂ C code m₂ hA hp hn ha hb Ng Nb
    have hpl := hwb p (List.mem_of_getElem? hp)
    refine wpAny_BinOp (len_of_str rfl rfl rfl hn ha Ng mln Nb bln (by decide) (by decide) ?_)
    refine len_of_str rfl rfl rfl hn hb Ng mln Nb bln (by decide) (by omega) ?_
    refine PySem.P.add_int (w := w) ?_
    refine ⟨?_, s₂.heap, _, rfl, fun _ _ e => e⟩
    rw [hp]; exact ⟨_, rfl⟩
  · intro a5 h5 tk5 gs p5 fpG wrG St hgb hk5 ht5 htr5 ha5 W hfp hwr hgen hSt haf hst0
    have hx5 := hk5 x _ (hnt _ hx) hxh
    have hd5 := hk5 dx _ (hnt _ hdx) hdh
    have F5 := fr_mod F' hk5 hL' hg0
    have N5 := news_mod N' hk5 hnt ht5
    have X5 := X'.keeps F5.keep
    refine spliced_cons ?_
    refine Attribute_name ?_
    refine wpAny_Name (wpAny_loadName_local rfl rfl F5.ns rfl ?_) (by decide)
    refine acc_get X5 hx5 hd5 (look_ini _ _ _) rfl ?_
    refine spliced_nil ?_
    have W := W.in4_1
    refine sum2_walkS (W.self 0 _ _ _ (W.frame 0 _ _ _ hst0 (Nat.le_succ _) fun _ _ _ e => e) ?_)
    refine ⟨a5, fpG, wrG, _, ws.length, _, St, _, rfl, W, W.frame 0 _ _ _ hst0 (Nat.le_succ _) fun _ _ _ e => e, hfp, fun i v hv => hv, fun j hj => ?_, fun s' t' hm => ?_⟩
    · have e1 : ws[j]? = some ws[j] := List.getElem?_eq_getElem hj
      have b1 := hwb _ (List.getElem_mem hj)
      have b2 := rowLen_bound (ws.take (j+1)) fun p hp => hwb p (List.mem_of_mem_take hp)
      have b3 : (ws.take (j+1)).length ≤ 100 := by rw [List.length_take]; omega
      rw [rowLen_pre ws (j+1) hj]
      rw [e1]
      simp only [Option.map_some, Option.getD_some]
      unfold InLong
      omega
    · rw [rowLen_pre ws ws.length (Nat.le_refl _), List.take_length]
      have hk6 : ∀ b o, b < h'.objs.size → h5.get? b = some o → s'.heap.get? b = some o := fun b o hb e => hm.heap b o (fun hw => Nat.lt_irrefl _ (Nat.lt_of_lt_of_le hb (hwr b hw))) e
      have F6 : Fr g' L' s'.heap _ := ⟨F5.ns.at' fun o e => hk6 L' o F'.ns.lt e, fun b o e => hk6 b o (Heap.lt_size (F'.keep b o e)) (F5.keep b o e), F5.above⟩
      have N6 : News g' L' s'.heap ((148, tabObj p5) :: news) := fun p hp => ⟨hk6 _ _ (by
        rcases List.mem_cons.mp hp with rfl | hp
        · exact Heap.lt_size htb
        · exact Heap.lt_size (N' p (.tail _ hp)).1) (N5 p hp).1, (N5 p hp).2⟩
      have hG6 := (hG.push hgb).movedS hm
      refine leaveK_ F6 N6 fun kF kN => ?_
      have q1 : s'.drawn = sd := hm.drawn
      have q2 : s'.os = so := hm.os
      obtain ⟨h6, g6, d6, t6, o6⟩ := s'
      cases q1; cases q2
      exact hret _ _ _ _ _ kF kN hG6 htr5
end Mine
end

section
open PySem PySem.W PyProof.Rows PySem.Calls
set_option Elab.async false
set_option linter.unusedVariables false
set_option linter.unusedSimpArgs false
set_option maxRecDepth 100000
set_option maxHeartbeats 2000000
set_option pp.maxSteps 1200
set_option pp.deepTerms false
namespace Mine
def Stop (p : Prop) : Prop := p
theorem stop_here {p : Prop} (h : Stop p) : p := h
structure Kont (G F : Prop) : Prop where
  go : G → F
theorem absG {G : Prop} (h : ∀ F : Prop, Kont G F → F) : G := h G ⟨id⟩
section
universe u
variable {G : Prop}
theorem exE2 {α0 α1 : Type} {p : α0 → α1 → Prop} (h : ∃ x0, ∃ x1, p x0 x1) (k : ∀ x0 x1, p x0 x1 → G) : G := match h with | ⟨x0, x1, h⟩ => k x0 x1 h
theorem exE3 {α0 α1 α2 : Type} {p : α0 → α1 → α2 → Prop} (h : ∃ x0, ∃ x1, ∃ x2, p x0 x1 x2) (k : ∀ x0 x1 x2, p x0 x1 x2 → G) : G := match h with | ⟨x0, x1, x2, h⟩ => k x0 x1 x2 h
theorem exE5 {α0 α1 α2 α3 α4 : Type} {p : α0 → α1 → α2 → α3 → α4 → Prop} (h : ∃ x0, ∃ x1, ∃ x2, ∃ x3, ∃ x4, p x0 x1 x2 x3 x4) (k : ∀ x0 x1 x2 x3 x4, p x0 x1 x2 x3 x4 → G) : G := match h with | ⟨x0, x1, x2, x3, x4, h⟩ => k x0 x1 x2 x3 x4 h
theorem exE6 {α0 α1 α2 α3 α4 α5 : Type} {p : α0 → α1 → α2 → α3 → α4 → α5 → Prop} (h : ∃ x0, ∃ x1, ∃ x2, ∃ x3, ∃ x4, ∃ x5, p x0 x1 x2 x3 x4 x5) (k : ∀ x0 x1 x2 x3 x4 x5, p x0 x1 x2 x3 x4 x5 → G) : G := match h with | ⟨x0, x1, x2, x3, x4, x5, h⟩ => k x0 x1 x2 x3 x4 x5 h
theorem exE7 {α0 α1 α2 α3 α4 α5 α6 : Type} {p : α0 → α1 → α2 → α3 → α4 → α5 → α6 → Prop} (h : ∃ x0, ∃ x1, ∃ x2, ∃ x3, ∃ x4, ∃ x5, ∃ x6, p x0 x1 x2 x3 x4 x5 x6) (k : ∀ x0 x1 x2 x3 x4 x5 x6, p x0 x1 x2 x3 x4 x5 x6 → G) : G := match h with | ⟨x0, x1, x2, x3, x4, x5, x6, h⟩ => k x0 x1 x2 x3 x4 x5 x6 h
theorem exE8 {α0 α1 α2 α3 α4 α5 α6 α7 : Type} {p : α0 → α1 → α2 → α3 → α4 → α5 → α6 → α7 → Prop} (h : ∃ x0, ∃ x1, ∃ x2, ∃ x3, ∃ x4, ∃ x5, ∃ x6, ∃ x7, p x0 x1 x2 x3 x4 x5 x6 x7) (k : ∀ x0 x1 x2 x3 x4 x5 x6 x7, p x0 x1 x2 x3 x4 x5 x6 x7 → G) : G := match h with | ⟨x0, x1, x2, x3, x4, x5, x6, x7, h⟩ => k x0 x1 x2 x3 x4 x5 x6 x7 h
theorem exE10 {α0 α1 α2 α3 α4 α5 α6 α7 α8 α9 : Type} {p : α0 → α1 → α2 → α3 → α4 → α5 → α6 → α7 → α8 → α9 → Prop} (h : ∃ x0, ∃ x1, ∃ x2, ∃ x3, ∃ x4, ∃ x5, ∃ x6, ∃ x7, ∃ x8, ∃ x9, p x0 x1 x2 x3 x4 x5 x6 x7 x8 x9) (k : ∀ x0 x1 x2 x3 x4 x5 x6 x7 x8 x9, p x0 x1 x2 x3 x4 x5 x6 x7 x8 x9 → G) : G := match h with | ⟨x0, x1, x2, x3, x4, x5, x6, x7, x8, x9, h⟩ => k x0 x1 x2 x3 x4 x5 x6 x7 x8 x9 h
theorem exI2 {α0 α1 : Type} {p : α0 → α1 → Prop} (x0 : α0) (x1 : α1) (h : p x0 x1) : ∃ x0, ∃ x1, p x0 x1 := ⟨x0, x1, h⟩
theorem exI3 {α0 α1 α2 : Type} {p : α0 → α1 → α2 → Prop} (x0 : α0) (x1 : α1) (x2 : α2) (h : p x0 x1 x2) : ∃ x0, ∃ x1, ∃ x2, p x0 x1 x2 := ⟨x0, x1, x2, h⟩
theorem exI5 {α0 α1 α2 α3 α4 : Type} {p : α0 → α1 → α2 → α3 → α4 → Prop} (x0 : α0) (x1 : α1) (x2 : α2) (x3 : α3) (x4 : α4) (h : p x0 x1 x2 x3 x4) : ∃ x0, ∃ x1, ∃ x2, ∃ x3, ∃ x4, p x0 x1 x2 x3 x4 := ⟨x0, x1, x2, x3, x4, h⟩
theorem exI6 {α0 α1 α2 α3 α4 α5 : Type} {p : α0 → α1 → α2 → α3 → α4 → α5 → Prop} (x0 : α0) (x1 : α1) (x2 : α2) (x3 : α3) (x4 : α4) (x5 : α5) (h : p x0 x1 x2 x3 x4 x5) : ∃ x0, ∃ x1, ∃ x2, ∃ x3, ∃ x4, ∃ x5, p x0 x1 x2 x3 x4 x5 := ⟨x0, x1, x2, x3, x4, x5, h⟩
theorem exI7 {α0 α1 α2 α3 α4 α5 α6 : Type} {p : α0 → α1 → α2 → α3 → α4 → α5 → α6 → Prop} (x0 : α0) (x1 : α1) (x2 : α2) (x3 : α3) (x4 : α4) (x5 : α5) (x6 : α6) (h : p x0 x1 x2 x3 x4 x5 x6) : ∃ x0, ∃ x1, ∃ x2, ∃ x3, ∃ x4, ∃ x5, ∃ x6, p x0 x1 x2 x3 x4 x5 x6 := ⟨x0, x1, x2, x3, x4, x5, x6, h⟩
theorem exI8 {α0 α1 α2 α3 α4 α5 α6 α7 : Type} {p : α0 → α1 → α2 → α3 → α4 → α5 → α6 → α7 → Prop} (x0 : α0) (x1 : α1) (x2 : α2) (x3 : α3) (x4 : α4) (x5 : α5) (x6 : α6) (x7 : α7) (h : p x0 x1 x2 x3 x4 x5 x6 x7) : ∃ x0, ∃ x1, ∃ x2, ∃ x3, ∃ x4, ∃ x5, ∃ x6, ∃ x7, p x0 x1 x2 x3 x4 x5 x6 x7 := ⟨x0, x1, x2, x3, x4, x5, x6, x7, h⟩
theorem exI10 {α0 α1 α2 α3 α4 α5 α6 α7 α8 α9 : Type} {p : α0 → α1 → α2 → α3 → α4 → α5 → α6 → α7 → α8 → α9 → Prop} (x0 : α0) (x1 : α1) (x2 : α2) (x3 : α3) (x4 : α4) (x5 : α5) (x6 : α6) (x7 : α7) (x8 : α8) (x9 : α9) (h : p x0 x1 x2 x3 x4 x5 x6 x7 x8 x9) : ∃ x0, ∃ x1, ∃ x2, ∃ x3, ∃ x4, ∃ x5, ∃ x6, ∃ x7, ∃ x8, ∃ x9, p x0 x1 x2 x3 x4 x5 x6 x7 x8 x9 := ⟨x0, x1, x2, x3, x4, x5, x6, x7, x8, x9, h⟩
theorem andE2 {a0 a1 : Prop} (h : a0 ∧ a1) (k : a0 → a1 → G) : G := k h.1 h.2
theorem andE3 {a0 a1 a2 : Prop} (h : a0 ∧ a1 ∧ a2) (k : a0 → a1 → a2 → G) : G := k h.1 h.2.1 h.2.2
theorem andE4 {a0 a1 a2 a3 : Prop} (h : a0 ∧ a1 ∧ a2 ∧ a3) (k : a0 → a1 → a2 → a3 → G) : G := k h.1 h.2.1 h.2.2.1 h.2.2.2
theorem andE5 {a0 a1 a2 a3 a4 : Prop} (h : a0 ∧ a1 ∧ a2 ∧ a3 ∧ a4) (k : a0 → a1 → a2 → a3 → a4 → G) : G := k h.1 h.2.1 h.2.2.1 h.2.2.2.1 h.2.2.2.2
theorem andE6 {a0 a1 a2 a3 a4 a5 : Prop} (h : a0 ∧ a1 ∧ a2 ∧ a3 ∧ a4 ∧ a5) (k : a0 → a1 → a2 → a3 → a4 → a5 → G) : G := k h.1 h.2.1 h.2.2.1 h.2.2.2.1 h.2.2.2.2.1 h.2.2.2.2.2
theorem andE7 {a0 a1 a2 a3 a4 a5 a6 : Prop} (h : a0 ∧ a1 ∧ a2 ∧ a3 ∧ a4 ∧ a5 ∧ a6) (k : a0 → a1 → a2 → a3 → a4 → a5 → a6 → G) : G := k h.1 h.2.1 h.2.2.1 h.2.2.2.1 h.2.2.2.2.1 h.2.2.2.2.2.1 h.2.2.2.2.2.2
theorem andE8 {a0 a1 a2 a3 a4 a5 a6 a7 : Prop} (h : a0 ∧ a1 ∧ a2 ∧ a3 ∧ a4 ∧ a5 ∧ a6 ∧ a7) (k : a0 → a1 → a2 → a3 → a4 → a5 → a6 → a7 → G) : G := k h.1 h.2.1 h.2.2.1 h.2.2.2.1 h.2.2.2.2.1 h.2.2.2.2.2.1 h.2.2.2.2.2.2.1 h.2.2.2.2.2.2.2
theorem andE9 {a0 a1 a2 a3 a4 a5 a6 a7 a8 : Prop} (h : a0 ∧ a1 ∧ a2 ∧ a3 ∧ a4 ∧ a5 ∧ a6 ∧ a7 ∧ a8) (k : a0 → a1 → a2 → a3 → a4 → a5 → a6 → a7 → a8 → G) : G := k h.1 h.2.1 h.2.2.1 h.2.2.2.1 h.2.2.2.2.1 h.2.2.2.2.2.1 h.2.2.2.2.2.2.1 h.2.2.2.2.2.2.2.1 h.2.2.2.2.2.2.2.2
theorem andE10 {a0 a1 a2 a3 a4 a5 a6 a7 a8 a9 : Prop} (h : a0 ∧ a1 ∧ a2 ∧ a3 ∧ a4 ∧ a5 ∧ a6 ∧ a7 ∧ a8 ∧ a9) (k : a0 → a1 → a2 → a3 → a4 → a5 → a6 → a7 → a8 → a9 → G) : G := k h.1 h.2.1 h.2.2.1 h.2.2.2.1 h.2.2.2.2.1 h.2.2.2.2.2.1 h.2.2.2.2.2.2.1 h.2.2.2.2.2.2.2.1 h.2.2.2.2.2.2.2.2.1 h.2.2.2.2.2.2.2.2.2
theorem andE11 {a0 a1 a2 a3 a4 a5 a6 a7 a8 a9 a10 : Prop} (h : a0 ∧ a1 ∧ a2 ∧ a3 ∧ a4 ∧ a5 ∧ a6 ∧ a7 ∧ a8 ∧ a9 ∧ a10) (k : a0 → a1 → a2 → a3 → a4 → a5 → a6 → a7 → a8 → a9 → a10 → G) : G := k h.1 h.2.1 h.2.2.1 h.2.2.2.1 h.2.2.2.2.1 h.2.2.2.2.2.1 h.2.2.2.2.2.2.1 h.2.2.2.2.2.2.2.1 h.2.2.2.2.2.2.2.2.1 h.2.2.2.2.2.2.2.2.2.1 h.2.2.2.2.2.2.2.2.2.2
theorem andE12 {a0 a1 a2 a3 a4 a5 a6 a7 a8 a9 a10 a11 : Prop} (h : a0 ∧ a1 ∧ a2 ∧ a3 ∧ a4 ∧ a5 ∧ a6 ∧ a7 ∧ a8 ∧ a9 ∧ a10 ∧ a11) (k : a0 → a1 → a2 → a3 → a4 → a5 → a6 → a7 → a8 → a9 → a10 → a11 → G) : G := k h.1 h.2.1 h.2.2.1 h.2.2.2.1 h.2.2.2.2.1 h.2.2.2.2.2.1 h.2.2.2.2.2.2.1 h.2.2.2.2.2.2.2.1 h.2.2.2.2.2.2.2.2.1 h.2.2.2.2.2.2.2.2.2.1 h.2.2.2.2.2.2.2.2.2.2.1 h.2.2.2.2.2.2.2.2.2.2.2
theorem andE13 {a0 a1 a2 a3 a4 a5 a6 a7 a8 a9 a10 a11 a12 : Prop} (h : a0 ∧ a1 ∧ a2 ∧ a3 ∧ a4 ∧ a5 ∧ a6 ∧ a7 ∧ a8 ∧ a9 ∧ a10 ∧ a11 ∧ a12) (k : a0 → a1 → a2 → a3 → a4 → a5 → a6 → a7 → a8 → a9 → a10 → a11 → a12 → G) : G := k h.1 h.2.1 h.2.2.1 h.2.2.2.1 h.2.2.2.2.1 h.2.2.2.2.2.1 h.2.2.2.2.2.2.1 h.2.2.2.2.2.2.2.1 h.2.2.2.2.2.2.2.2.1 h.2.2.2.2.2.2.2.2.2.1 h.2.2.2.2.2.2.2.2.2.2.1 h.2.2.2.2.2.2.2.2.2.2.2.1 h.2.2.2.2.2.2.2.2.2.2.2.2
theorem andE17 {a0 a1 a2 a3 a4 a5 a6 a7 a8 a9 a10 a11 a12 a13 a14 a15 a16 : Prop} (h : a0 ∧ a1 ∧ a2 ∧ a3 ∧ a4 ∧ a5 ∧ a6 ∧ a7 ∧ a8 ∧ a9 ∧ a10 ∧ a11 ∧ a12 ∧ a13 ∧ a14 ∧ a15 ∧ a16) (k : a0 → a1 → a2 → a3 → a4 → a5 → a6 → a7 → a8 → a9 → a10 → a11 → a12 → a13 → a14 → a15 → a16 → G) : G := k h.1 h.2.1 h.2.2.1 h.2.2.2.1 h.2.2.2.2.1 h.2.2.2.2.2.1 h.2.2.2.2.2.2.1 h.2.2.2.2.2.2.2.1 h.2.2.2.2.2.2.2.2.1 h.2.2.2.2.2.2.2.2.2.1 h.2.2.2.2.2.2.2.2.2.2.1 h.2.2.2.2.2.2.2.2.2.2.2.1 h.2.2.2.2.2.2.2.2.2.2.2.2.1 h.2.2.2.2.2.2.2.2.2.2.2.2.2.1 h.2.2.2.2.2.2.2.2.2.2.2.2.2.2.1 h.2.2.2.2.2.2.2.2.2.2.2.2.2.2.2.1 h.2.2.2.2.2.2.2.2.2.2.2.2.2.2.2.2
end
theorem kstep {m g : Str → Option Value} {a : Str} {va : Value} (h : m a = some va) (e : m = g) : m = fun z => if z = a then some va else g z := by
  funext z
  by_cases e1 : z = a
  · rw [if_pos e1, e1, h]
  · rw [if_neg e1, e]
theorem list2 {α : Type} {l : List α} (h : l.length = 2) : ∃ a b, l = [a, b] := by
  cases l with
  | nil => cases h
  | cons a l => cases l with
    | nil => cases h
    | cons b l => exact ⟨a, b, by rw [List.length_eq_zero_iff.mp (Nat.succ.inj (Nat.succ.inj h))]⟩
structure HidP (p : Prop) : Prop where
  out : p
section
variable {α : Type}
def nth1 : List α → Nat → List α
  | [], _ => []
  | a :: _, 0 => [a]
  | _ :: l, n + 1 => nth1 l n
theorem nth1_mem : ∀ {l : List α} {i : Nat} {p : α}, p ∈ nth1 l i → p ∈ l
  | [], _, _, h => nomatch h
  | _ :: _, 0, _, h => by rw [List.mem_singleton.mp h]; exact .head _
  | _ :: _, _ + 1, _, h => .tail _ (nth1_mem h)
def pickN (src : List α) (is : List Nat) (k : Nat) : List α := is.foldr (fun i r => nth1 src i ++ r) (src.drop k)
theorem pick_mem {src : List α} {k : Nat} : ∀ {is : List Nat} {p : α}, p ∈ pickN src is k → p ∈ src
  | [], _, h => List.mem_of_mem_drop h
  | i :: is, _, h => by
    rcases List.mem_append.mp h with h | h
    · exact nth1_mem h
    · exact pick_mem (is := is) h
theorem pick {P : α → Prop} {src : List α} (is : List Nat) (k : Nat) (h : ∀ p ∈ src, P p) : ∀ p ∈ pickN src is k, P p := fun p hp => h p (pick_mem hp)
theorem mAt {src : List α} {p : α} (i : Nat) (h : nth1 src i = [p] := by rfl) : p ∈ src := nth1_mem (i := i) (by rw [h]; exact .head _)
theorem mTl {src ext : List α} {p : α} (k : Nat) (hp : p ∈ ext) (h : src.drop k = ext := by rfl) : p ∈ src := List.mem_of_mem_drop (i := k) (by rw [h]; exact hp)
theorem allC {P : α → Prop} {a : α} {l : List α} (h : P a) (r : ∀ p ∈ l, P p) : ∀ p ∈ a :: l, P p := List.forall_mem_cons.mpr ⟨h, r⟩
end
theorem newsPick {h₀ h : Heap} {L : Addr} {src : List (Addr × Obj)} (is : List Nat) (k : Nat) (N : News h₀ L h src) : News h₀ L h (pickN src is k) := fun p hp => N p (pick_mem hp)
theorem newsPlus {h₀ h : Heap} {L : Addr} {src : List (Addr × Obj)} {q : Addr × Obj} (N : News h₀ L h src) (hq : q ∈ src) : News h₀ L h (q :: src) := fun p hp => by
  rcases List.mem_cons.mp hp with rfl | hp
  · exact N _ hq
  · exact N _ hp
theorem newsFront {h₀ h : Heap} {L : Addr} {A own B : List (Addr × Obj)} (N : News h₀ L h (A ++ (own ++ B))) : News h₀ L h (own ++ (A ++ B)) := fun p hp => N p (by
  rcases List.mem_append.mp hp with hp | hp
  · exact List.mem_append_right _ (List.mem_append_left _ hp)
  · rcases List.mem_append.mp hp with hp | hp
    · exact List.mem_append_left _ hp
    · exact List.mem_append_right _ (List.mem_append_right _ hp))
theorem newsFront2 {h₀ h : Heap} {L : Addr} {A B own C : List (Addr × Obj)} (N : News h₀ L h (A ++ (B ++ (own ++ C)))) : News h₀ L h (own ++ (A ++ (B ++ C))) := fun p hp => N p (by
  rcases List.mem_append.mp hp with hp | hp
  · exact List.mem_append_right _ (List.mem_append_right _ (List.mem_append_left _ hp))
  · rcases List.mem_append.mp hp with hp | hp
    · exact List.mem_append_left _ hp
    · rcases List.mem_append.mp hp with hp | hp
      · exact List.mem_append_right _ (List.mem_append_left _ hp)
      · exact List.mem_append_right _ (List.mem_append_right _ (List.mem_append_right _ hp)))
end Mine
end

section
open PySem PySem.W PyProof.Rows PySem.Calls
set_option Elab.async false
set_option linter.unusedVariables false
set_option maxRecDepth 100000
set_option maxHeartbeats 400000
set_option pp.maxSteps 900
set_option pp.deepTerms false
namespace Mine
theorem fn_upd {h₀ h h' : Heap} {L x : Addr} {m : Str → Option Value} {news : List (Addr × Obj)} {o o' : Obj} {gg : Obj → List (Addr × Obj)} (F : Fr h₀ L h m) (N : News h₀ L h news) (U : UpdF x o news gg)
    (hk : ∀ b o, b ≠ x → h.get? b = some o → h'.get? b = some o) (e : h'.get? x = some o') : Fr h₀ L h' m ∧ News h₀ L h' (gg o') := by
  obtain ⟨pre, post, rfl, hg, h1, h2⟩ := U.split
  have hm := N (x, o) (List.mem_append_right _ (.head _))
  refine ⟨fr_mod F hk hm.2.1.symm hm.2.2, ?_⟩
  rw [hg]
  intro p hp
  rcases List.mem_append.mp hp with hp | hp
  · have z := N p (List.mem_append_left _ hp); exact ⟨hk _ _ (h1 p hp) z.1, z.2⟩
  · rcases List.mem_cons.mp hp with rfl | hp
    · exact ⟨e, hm.2⟩
    · have z := N p (List.mem_append_right _ (.tail _ hp)); exact ⟨hk _ _ (h2 p hp) z.1, z.2⟩
theorem upd_mem {x : Addr} {news : List (Addr × Obj)} {o : Obj} {gg : Obj → List (Addr × Obj)} (U : UpdF x o news gg) : (x, o) ∈ news ∧ (∀ o', (x, o') ∈ gg o') ∧ (∀ p ∈ news, p.1 ≠ x → ∀ o', p ∈ gg o') ∧ (∀ o' p, p ∈ gg o' → p ∈ news ∨ p = (x, o')) := by
  obtain ⟨pre, post, rfl, hg, h1, h2⟩ := U.split
  refine ⟨List.mem_append_right _ (.head _), fun o' => by rw [hg]; exact List.mem_append_right _ (.head _), fun p hp hx o' => ?_, fun o' p hp => ?_⟩
  · rw [hg]
    rcases List.mem_append.mp hp with hp | hp
    · exact List.mem_append_left _ hp
    · rcases List.mem_cons.mp hp with rfl | hp
      · exact absurd rfl hx
      · exact List.mem_append_right _ (.tail _ hp)
  · rw [hg] at hp
    rcases List.mem_append.mp hp with hp | hp
    · exact .inl (List.mem_append_left _ hp)
    · rcases List.mem_cons.mp hp with rfl | hp
      · exact .inr rfl
      · exact .inl (List.mem_append_right _ (.tail _ hp))
theorem up_other {h : Heap} {x : Addr} {f : Obj → Obj} : ∀ b o, b ≠ x → h.get? b = some o → (h.update x f).get? b = some o := fun b o hb e => (Heap.get?_update_other h f (Ne.symm hb)).trans e
theorem same_other {h h' : Heap} {x : Addr} (k : Heap.SameBut x h h') : ∀ b o, b ≠ x → h.get? b = some o → h'.get? b = some o := fun b o hb e => (k.2 b hb).trans e
end Mine
end

theorem Mine.rs1 {M : Model} {A : Around} {Q : Nat → Shared → Prop} {E : Value → Shared → Prop} {s : Shared} (h : wpAny M A (pure 1) Q E s) : wpAny M A (pure 1) Q E s := by first | (walk1; fail) | exact h
section
open PySem PySem.W PyProof.Rows PySem.Calls
set_option Elab.async false
set_option linter.unusedVariables false
set_option maxRecDepth 100000
set_option maxHeartbeats 2000000
set_option pp.maxSteps 900
set_option pp.deepTerms false
namespace Mine
local macro_rules | `(tactic| walk_at $s) => if s.getString ∈ ["getMethod ref", "call builtin:list.append"] then `(tactic| refine stop_here ?_) else Lean.Macro.throwUnsupported
theorem f_append {w : World} : findIn (Mine.top.heap_1 w.params) (.ref 186) "append" = some (some (.builtin "list.append")) := by kernel_rfl
theorem shadow_ini (h : Int) (u : Tok) (v : Value) : shadowIn (some (iniOf h u v)) "append" = some false := by
  unfold shadowIn; rfl
theorem push_ok {w : World} {mean : ExcName → Option Value} {mg mb : Str → Option Value} : ∀ (dp un : Nat) (gd : Option (List Code)) (cn : Str) (cs : Scope) (a : Addr) (ccd : Value) (cl : List (Str × Addr)) (outer : List Env) (A₀ : Around) (base h₀ : Heap) (L : Addr) (m : Str → Option Value) (news : List (Addr × Obj)) (s : Shared) (Q E : Value → Shared → Prop) (x dx : Addr) (its : Array Value) (n : Nat) (hs : Int) (u : Tok) (v : Value) (gg : Obj → List (Addr × Obj)) (s1 s2 : Str) (t1 t2 : Tok),
    ∀ (hB : Below A₀ base outer h₀) (hF : Fr h₀ L s.heap m) (hX : (Mine.top.heap_1 w.params).In h₀) (hN : News h₀ L s.heap news) (hT : Top topProg (looseW Mine.top.view_1 [Str.ofString "_safe_string", Str.ofString "_Accumulator"] ++ List.map (fun x => x.name) (recsOf Mine.top.view_1) ++ List.map (fun x => x.fst) (litsOf Mine.top.view_1) ++ List.map (fun x => x.name) (clssOf Mine.top.view_1 (looseW Mine.top.view_1 [Str.ofString "_safe_string", Str.ofString "_Accumulator"]))) mean mg mb h₀) (hk : cs.kind = .function) (hd : dp + 2 < recursionLimit) (hu : un + 40 < cLine)
    (hU : UpdF x (accObj dx its n) news gg) (hx : (x, accObj dx its n) ∈ news) (hdx : (dx, iniOf hs u v) ∈ news) (hsz : its.size ≤ 100)
    (hret : ∀ tp h' tk' n', Fr h₀ L h' m → News h₀ L h' ((tp, tupObj #[.str s1 t1, .str s2 t2]) :: gg (accObj dx (its.push (.ref tp)) n')) → (∀ p ∈ news, p.1 < tp) → Q .none { s with heap := h', toks := tk' }),
    wpAny (model PySem.Challenge.rw_wu0081_01.row.prog w) (ktrTop dp un gd cn cs L a ccd cl outer) (call (.ref 130) [.ref x, .str s1 t1, .str s2 t2]) Q E s := by
  k_fill
  intro dp un gd cn cs a ccd cl outer A₀ base h₀ L m news s Q E x dx its n hs u v gg s1 s2 t1 t2 B F X N T hk hd hu U hx hdx hsz hret
  refine wpAny_call ?_
  k_dflt ktr_enter
  rename_i g' L' h' FG' F' N' B' X' T'
  k_steps
  unfold Stop
  refine acc_method (X'.keeps F'.keep) (N' _ hx).1 (N' _ hdx).1 f_append rfl rfl (shadow_ini _ _ _) ?_
  k_steps
  rename_i D1 h1 F1 N1 l1
  have U1 := UpdF.tail (p := (D1, tupObj #[.str s1 t1, .str s2 t2])) (Nat.ne_of_gt (l1 _ hx)) U
  have e1 := (N1 _ (.tail _ hx)).1
  unfold Stop
  refine acc_append (X'.keeps F1.keep) e1 (by omega) ?_
  obtain ⟨F2, N2⟩ := fn_upd F1 N1 U1 up_other (Heap.get?_update_self (Obj.mapSeq (·.push (.ref D1))) e1 rfl)
  k_steps
  exact hret _ _ _ _ (by assumption) (by assumption) l1
end Mine
end

section
open PySem PySem.W PyProof.Rows PySem.Calls
set_option Elab.async false
set_option linter.unusedVariables false
set_option maxRecDepth 100000
set_option maxHeartbeats 400000
set_option pp.maxSteps 900
set_option pp.deepTerms false
namespace Mine
def BndAt (b : Addr) (h : Heap) : Prop := ∃ bt id x, (bt = "builtin_function_or_method" ∨ bt = "method-wrapper") ∧ h.get? b = some (bndObj bt id x)
section
variable {M : Model} {A : Around} {E : Value → Shared → Prop} {s : Shared} {env : Env} {pos : Pos} {Q : Value → Shared → Prop} {b : Addr}
theorem keeps_bnd (h : Heap) (X : BndAt b h) : ∃ k, (k = Keeper.frame ∨ k = Keeper.machine ∨ k = Keeper.boundFrame) ∧ Looks M h (keeperOf (.ref b)) k := by
  obtain ⟨bt, id, x, hbt, e⟩ := X
  have e1 : (Value.type bt != Value.type "method") = true := by rcases hbt with rfl | rfl <;> decide
  have e2 : (Value.type bt == Value.type "builtin_function_or_method" || Value.type bt == Value.type "method-wrapper") = true := by rcases hbt with rfl | rfl <;> decide
  refine ⟨.machine, .inr (.inl rfl), (Looks.ld (part := none) e).andThen ?_⟩
  simp only [e1, e2, if_true]
  exact .now
theorem callWith_bnd0 {x : Addr} {bt id : String} (hbt : bt = "builtin_function_or_method" ∨ bt = "method-wrapper") (hb : s.heap.get? b = some (bndObj bt id x))
    (h : wpAny M A (call (.ref b) []) Q E s) : wpAny M A (callWith pos (.ref b) [] (backTo pos (starEach [] env)) []) Q E s :=
  callWith_of rfl keeps_bnd (evalArgs_nil3 ⟨⟨bt, id, x, hbt, hb⟩, h⟩)
end
end Mine
end

theorem Mine.rs2 {M : Model} {A : Around} {Q : Nat → Shared → Prop} {E : Value → Shared → Prop} {s : Shared} (h : wpAny M A (pure 1) Q E s) : wpAny M A (pure 1) Q E s := by first | (walk1; fail) | exact h
section
open PySem PySem.W PyProof.Rows PySem.Calls
set_option Elab.async false
set_option linter.unusedVariables false
set_option maxRecDepth 100000
set_option maxHeartbeats 2000000
set_option pp.maxSteps 900
set_option pp.deepTerms false
namespace Mine
local macro_rules | `(tactic| walk_at $s) => if s.getString == "getMethod ref" then `(tactic| refine stop_here ?_) else Lean.Macro.throwUnsupported
theorem entry_llen : entryFor table "list.__len__" = some Builtin.«list.__len__» := entryFor_of_tree (by kernel_rfl)
theorem f186 {w : World} : (((Mine.top.heap_1 w.params)).lookup 186).isSome = true := by kernel_rfl
theorem acc_ne {w : World} {h : Heap} {x : Addr} (X : (Mine.top.heap_1 w.params).In h) (h0 : h.get? x = none) : x ≠ 186 := fun e => by
  obtain ⟨o, ho⟩ := Option.isSome_iff_exists.mp (f186 (w := w))
  have := X _ _ ho
  rw [e, this] at h0; cases h0
theorem pcount_ok {w : World} {mean : ExcName → Option Value} {mg mb : Str → Option Value} : ∀ (dp un : Nat) (gd : Option (List Code)) (cn : Str) (cs : Scope) (a : Addr) (ccd : Value) (cl : List (Str × Addr)) (outer : List Env) (A₀ : Around) (base h₀ : Heap) (L : Addr) (m : Str → Option Value) (news : List (Addr × Obj)) (s : Shared) (Q E : Value → Shared → Prop) (x dx : Addr) (its : Array Value) (n : Nat) (hs : Int) (u : Tok) (v : Value),
    ∀ (hB : Below A₀ base outer h₀) (hF : Fr h₀ L s.heap m) (hX : (Mine.top.heap_1 w.params).In h₀) (hN : News h₀ L s.heap news) (hT : Top topProg (looseW Mine.top.view_1 [Str.ofString "_safe_string", Str.ofString "_Accumulator"] ++ List.map (fun x => x.name) (recsOf Mine.top.view_1) ++ List.map (fun x => x.fst) (litsOf Mine.top.view_1) ++ List.map (fun x => x.name) (clssOf Mine.top.view_1 (looseW Mine.top.view_1 [Str.ofString "_safe_string", Str.ofString "_Accumulator"]))) mean mg mb h₀) (hk : cs.kind = .function) (hd : dp + 3 < recursionLimit) (hu : un + 40 < cLine)
    (hx : (x, accObj dx its n) ∈ news) (hdx : (dx, iniOf hs u v) ∈ news)
    (hret : ∀ r h' tk', Fr h₀ L h' m → News h₀ L h' news → Q (.int its.size r) { s with heap := h', toks := tk' }),
    wpAny (model PySem.Challenge.rw_wu0081_01.row.prog w) (ktrTop dp un gd cn cs L a ccd cl outer) (call (.ref 183) [.ref x]) Q E s := by
  k_fill
  intro dp un gd cn cs a ccd cl outer A₀ base h₀ L m news s Q E x dx its n hs u v B F X N T hk hd hu hx hdx hret
  refine wpAny_call ?_
  k_dflt (refine' ks_code_super ?k1 ?k2 ?k3 ?k4 ?k5 ?kA ?kF ?kK ?k6 ?k7 ?k8 ?k9 ?kB ?_ ?c1 ?c2 ?c3 ?c4; (case kA => exact rfl); (case kF => exact rfl); (case kK => assumption); (case k1 => k_asm); (case k2 => k_asm); (case k3 => k_asm); (case k4 => k_asm); (case k5 => k_asm); (case k6 => k_is); (case k7 => k_is); (case k8 => ktr_room); (case k9 => first | exact BindsTo.of_eq rfl | exact binds_K (by k_in) rfl (by k_is) rfl rfl rfl); (case kB => exact locs rfl); (case c1 => decide); (case c2 => exact rfl); (case c3 => exact rfl); (case c4 => exact rfl); intro g' L' h' FG' F' N' B' X' T' l1; (try dsimp only))
  have I1 : W.InstAt h' x (accObj dx its n) 186 (some (iniOf hs u v)) := acc_inst (N' _ hx).1 (N' _ hdx).1
  k_steps
  all_goals (try unfold Stop)
  refine ks_node F' X' N' T' (by k_is) (by rfl) (by rfl) I1 (by k_is) (by rfl) (by first | rfl | decide +kernel) (by k_is) (by k_is) (by k_is) (by k_is) (by decide) (by rfl) (by rfl) (by rfl) (by rfl) (by decide +kernel) (by first | boot_by_name | rfl | kernel_rfl) ?_
  intro so h1 F1 N1 l2
  k_steps
  all_goals (try unfold Stop)
  have X1 := X'.keeps F1.keep
  have hx1 := (N1 _ (.tail _ hx)).1
  have hxC : x ≠ 186 := acc_ne X' (N1 _ (.tail _ hx)).2.2
  refine getMethod_super (v := .none) _ (N1 _ (.head _)).1 X1 hx1 f_slen type_len lk_wd_get (by decide) hxC (fun A' Q' E' q => bind_len X1 hx1 q) ?_
  obtain ⟨F2, N2, l3⟩ := ks_newsPush (s := ⟨h1, s.gens, s.drawn, s.toks, s.os⟩) F1 N1 rfl (Heap.get?_push_size (o := bndObj "method-wrapper" "list.__len__" x) _ rfl) (fun b o e => Heap.get?_push_of_some _ e)
  refine callWith_bnd0 (.inr rfl) (N2 _ (.head _)).1 ?_
  have hx2 := (N2 _ (.tail _ (.tail _ hx))).1
  refine wpAny_call (call_bound (bt := "method-wrapper") (by decide) (N2 _ (.head _)).1 (fun A' Q' E' q => chk_len (X'.keeps F2.keep) hx2 q) (by decide +kernel) entry_llen ?_)
  refine run_len hx2 ?_
  k_steps
  all_goals (try unfold Stop)
  rename_i kF kN kT kX
  exact hret _ _ _ kF fun p hp => kN p (.tail _ (.tail _ hp))
end Mine
end

theorem Mine.rs3 {M : Model} {A : Around} {Q : Nat → Shared → Prop} {E : Value → Shared → Prop} {s : Shared} (h : wpAny M A (pure 1) Q E s) : wpAny M A (pure 1) Q E s := by first | (walk1; fail) | exact h
section
open PySem PySem.W PyProof.Rows PySem.Calls
set_option Elab.async false
set_option linter.unusedVariables false
set_option maxRecDepth 100000
set_option maxHeartbeats 2000000
set_option pp.maxSteps 900
set_option pp.deepTerms false
namespace Mine
local macro_rules | `(tactic| walk_at $s) => if s.getString ∈ ["getMethod ref", "call ref"] then `(tactic| refine stop_here ?_) else Lean.Macro.throwUnsupported
theorem f_pcount {w : World} : findIn (Mine.top.heap_1 w.params) (.ref 186) "part_count" = some (some (.ref 183)) := by kernel_rfl
theorem f_ty183 {w : World} : typeIn (Mine.top.heap_1 w.params) (.ref 183) = some (.type "function") := by kernel_rfl
theorem entry_lpop : entryFor table "list.pop" = some Builtin.«list.pop» := entryFor_of_tree (by kernel_rfl)
theorem of_fr {h₀ h : Heap} {L : Addr} {m : Str → Option Value} (_ : Fr h₀ L h m) : ∃ P : Heap → Prop, ∀ h', Fr h₀ L h' m ↔ P h' := ⟨fun h' => Fr h₀ L h' m, fun _ => Iff.rfl⟩
theorem popa_ok {w : World} {mean : ExcName → Option Value} {mg mb : Str → Option Value} : ∀ (dp un : Nat) (gd : Option (List Code)) (cn : Str) (cs : Scope) (a : Addr) (ccd : Value) (cl : List (Str × Addr)) (outer : List Env) (A₀ : Around) (base h₀ : Heap) (L : Addr) (m : Str → Option Value) (news : List (Addr × Obj)) (s : Shared) (Q E : Value → Shared → Prop) (x dx : Addr) (l : List Value) (v : Value) (n : Nat) (hs : Int) (u : Tok) (v0 : Value) (gg : Obj → List (Addr × Obj)),
    ∀ (hB : Below A₀ base outer h₀) (hF : Fr h₀ L s.heap m) (hX : (Mine.top.heap_1 w.params).In h₀) (hN : News h₀ L s.heap news) (hT : Top topProg (looseW Mine.top.view_1 [Str.ofString "_safe_string", Str.ofString "_Accumulator"] ++ List.map (fun x => x.name) (recsOf Mine.top.view_1) ++ List.map (fun x => x.fst) (litsOf Mine.top.view_1) ++ List.map (fun x => x.name) (clssOf Mine.top.view_1 (looseW Mine.top.view_1 [Str.ofString "_safe_string", Str.ofString "_Accumulator"]))) mean mg mb h₀) (hk : cs.kind = .function) (hd : dp + 4 < recursionLimit) (hu : un + 80 < cLine)
    (hU : UpdF x (accObj dx (l ++ [v]).toArray n) news gg) (hx : (x, accObj dx (l ++ [v]).toArray n) ∈ news) (hdx : (dx, iniOf hs u v0) ∈ news) (hsz : l.length ≤ 100)
    (hret : ∀ h' tk' n', Fr h₀ L h' m → News h₀ L h' (gg (accObj dx l.toArray n')) → Q v { s with heap := h', toks := tk' }),
    wpAny (model PySem.Challenge.rw_wu0081_01.row.prog w) (ktrTop dp un gd cn cs L a ccd cl outer) (call (.ref 146) [.ref x]) Q E s := by
  k_fill
  intro dp un gd cn cs a ccd cl outer A₀ base h₀ L m news s Q E x dx l v n hs u v0 gg B F X N T hk hd hu U hx hdx hsz hret
  refine wpAny_call ?_
  k_dflt (refine' ks_code_super ?k1 ?k2 ?k3 ?k4 ?k5 ?kA ?kF ?kK ?k6 ?k7 ?k8 ?k9 ?kB ?_ ?c1 ?c2 ?c3 ?c4; (case kA => exact rfl); (case kF => exact rfl); (case kK => assumption); (case k1 => k_asm); (case k2 => k_asm); (case k3 => k_asm); (case k4 => k_asm); (case k5 => k_asm); (case k6 => k_is); (case k7 => k_is); (case k8 => ktr_room); (case k9 => first | exact BindsTo.of_eq rfl | exact binds_K (by k_in) rfl (by k_is) rfl rfl rfl); (case kB => exact locs rfl); (case c1 => decide); (case c2 => exact rfl); (case c3 => exact rfl); (case c4 => exact rfl); intro g' L' h' FG' F' N' B' X' T' l1; (try dsimp only))
  have I1 : W.InstAt h' x (accObj dx (l ++ [v]).toArray n) 186 (some (iniOf hs u v0)) := acc_inst (N' _ hx).1 (N' _ hdx).1
  refine ks_wpAt_execs_cons ?_
  refine ks_wpAt_If ?_
  obtain ⟨P9, hP9⟩ := of_fr F'
  refine wpAt_of_wpAny (wpAny_mono (Q := fun b s1 => b = false ∧ ∃ h1 tk1, s1 = { s with heap := h1, toks := tk1 } ∧ P9 h1 ∧ News g' L' h1 news) (E := _) ?_ (fun b s1 h9 => ?_) fun _ _ e => e)
  · k_steps
    all_goals (try unfold Stop)
    refine acc_method (X'.keeps F'.keep) (N' _ hx).1 (N' _ hdx).1 f_pcount f_ty183 rfl rfl ?_
    k_steps
    all_goals (try unfold Stop)
    refine' pcount_ok _ _ _ _ _ _ _ _ _ _ _ _ _ _ _ _ _ _ x dx _ _ _ _ _ ?kB ?kF ?kX ?kN ?kT ?kk ?kd ?ku hx hdx ?kr
    (case kB => k_asm); (case kF => k_asm); (case kX => assumption); (case kN => k_asm); (case kT => k_asm); (case kk => exact rfl); (case kd => ktr_room); (case ku => first | ktr_units | (have hcL9 := cLine_is; (try simp only [units_under_make, units_in1, units_deeper, Around.mark_units, units_caller]); (try dsimp only [ktrTop]); omega))
    case kr =>
    intro r1 h1 tk1 F1 N1
    have e1 : (((l ++ [v]).toArray.size : Nat) : Int) = (l.length : Int) + 1 := by simp
    rw [e1]
    k_steps
    all_goals (try unfold Stop)
    · exact (hP9 _).mp F1
    · exact N1
  · obtain ⟨rfl, h1, tk1, rfl, F1, N1⟩ := h9
    replace F1 := (hP9 _).mpr F1
    refine wpAt_of_wpAny (wpAny_execs_nil ?_)
    refine ks_wpAt_execs_cons ?_
    refine ks_wpAt_Return_some ?_
    refine ks_wpAt_MethodCall ?_
    have I2 : W.InstAt h1 x (accObj dx (l ++ [v]).toArray n) 186 (some (iniOf hs u v0)) := acc_inst (N1 _ hx).1 (N1 _ hdx).1
    refine ks_node F1 X' N1 T' (by k_is) (by rfl) (by rfl) I2 (by k_is) (by rfl) (by first | rfl | decide +kernel) (by k_is) (by k_is) (by k_is) (by k_is) (by decide) (by rfl) (by rfl) (by rfl) (by rfl) (by decide +kernel) (by first | boot_by_name | rfl | kernel_rfl) ?_
    intro so h2 F2 N2 l2
    k_steps
    all_goals (try unfold Stop)
    have X2 := X'.keeps F2.keep
    have hx2 := (N2 _ (.tail _ hx)).1
    have hxC : x ≠ 186 := acc_ne X' (N2 _ (.tail _ hx)).2.2
    refine getMethod_super (v := .none) _ (N2 _ (.head _)).1 X2 hx2 f_spop type_pop lk_md_get (by decide) hxC (fun A' Q' E' q => bind_pop X2 hx2 q) ?_
    obtain ⟨F3, N3, l3⟩ := ks_newsPush (s := ⟨h2, s.gens, s.drawn, tk1, s.os⟩) F2 N2 rfl (Heap.get?_push_size (o := bndObj "builtin_function_or_method" "list.pop" x) _ rfl) (fun b o e => Heap.get?_push_of_some _ e)
    refine callWith_bnd0 (.inl rfl) (N3 _ (.head _)).1 ?_
    have hx3 := (N3 _ (.tail _ (.tail _ hx))).1
    refine wpAny_call (call_bound (bt := "builtin_function_or_method") (by decide) (N3 _ (.head _)).1 (fun A' Q' E' q => chk_pop (X'.keeps F3.keep) hx3 q) (by decide +kernel) entry_lpop ?_)
    refine run_pop (by omega) hx3 (fun h4 s4 e4 => ?_)
    have hne1 := l2 _ hx
    have hne2 := l3 _ (.tail _ hx)
    have U4 := UpdF.tail (p := (h2.objs.size, bndObj "builtin_function_or_method" "list.pop" x)) (Nat.ne_of_gt hne2) (UpdF.tail (p := (so, ks_superObj 186 x 186)) (Nat.ne_of_gt hne1) U)
    obtain ⟨F4, N4⟩ := fn_upd F3 N3 U4 (same_other s4) e4
    k_steps
    all_goals (try unfold Stop)
    rename_i kF kN kT kX
    exact hret _ _ _ kF fun p hp => kN p (.tail _ (.tail _ hp))
end Mine
end

section
open PySem PySem.W PyProof.Rows PySem.Calls
set_option Elab.async false
set_option linter.unusedVariables false
set_option maxRecDepth 100000
set_option maxHeartbeats 400000
set_option pp.maxSteps 1500
set_option pp.deepTerms false
namespace Mine

theorem str_nil : Str.ofString "" = (⟨#[]⟩ : Str) := rfl
theorem txt_join (l : List Str) : Txt.join (Str.ofString "") l = Str.join ⟨#[]⟩ l := eq_of_beq (join_plain_closes _ l)
theorem str_app_empty (b : Str) : b ++ Str.empty = b := by
  cases b; rename_i c; show Str.mk (c ++ #[]) = Str.mk c; rw [Array.append_empty]
theorem join2 (a b : Str) : Txt.join (Str.ofString "") [a, b] = a ++ b := by
  rw [txt_join, join_nil_cons, join_nil_cons]
  show a ++ (b ++ (Str.empty)) = a ++ b
  rw [str_app_empty]
section
variable {prog : Program} {w : World} {A : Around} {E : Value → Shared → Prop} {s : Shared}
theorem elt_join {env : Env} {pe pa pf pp pt pc : Pos} {kt : Nat} {mg m₂ : Str → Option Value} {a b : Str} {te ta tb : Tok} (hk : env.scope.kind = .function) (hE : env.kindOf ("EMPTYSTRING" : Str) = some .globalImplicit) (ha : env.kindOf ("fws" : Str) = some .local) (hb : env.kindOf ("part" : Str) = some .local)
    (hg : s.heap.Ns env.globals mg) (hm : mg "EMPTYSTRING" = some (.str (Str.ofString "") te)) (hn : s.heap.Ns env.locals m₂) (h1 : m₂ "fws" = some (.str a ta)) (h2 : m₂ "part" = some (.str b tb)) (hla : a.length ≤ 1000) (hlb : b.length ≤ 1000) {pl : Sem Bool}
    (he : eval (.Call (.Attribute (.Name "EMPTYSTRING" pe) "join" pa) [.Tuple [.Name "fws" pf, .Name "part" pp] kt pt] [] pc) env = (do
      let ov ← eval (.Name "EMPTYSTRING" pe) env
      standAt pa.atName
      let (f, first) ← holding [ov] (getMethod ov "join" pl)
      callWith pc f first (backTo pc (starEach [.Tuple [.Name "fws" pf, .Name "part" pp] kt pt] env)) [])) :
    wpAny (model prog w) A (eval (.Call (.Attribute (.Name "EMPTYSTRING" pe) "join" pa) [.Tuple [.Name "fws" pf, .Name "part" pp] kt pt] [] pc) env) (fun y s₃ => (∃ t, y = .str (a ++ b) t) ∧ Keeps s s₃) E s := by
  refine MethodCall_ (pl := pl) (Name_function_global hk hE (loadGlobal_global hg hm ?_) (by decide)) he
  refine GM.join ?_
  refine callWith_builtin rfl (evalArgs_plain (spliced_cons ?_))
  refine Tuple_ (k := kt) (spliced_cons (wpAny_Name (wpAny_loadName_local hk ha hn h1 ?_) (by decide)))
  refine spliced_cons (wpAny_Name (wpAny_loadName_local hk hb hn h2 ?_) (by decide))
  refine spliced_nil ?_
  refine wpAny_newTuple ?_ (by rw [sizeLine_eq]; simp)
  refine spliced_nil ?_
  refine join_tuple (items := #[.str a ta, .str b tb]) (ys := [a, b]) ⟨_, Heap.get?_push_size _ rfl, rfl, _, rfl⟩ (.cons _ _ (.cons _ _ .nil)) (by simp only [List.map_cons, List.map_nil, List.sum_cons, List.sum_nil, List.length_cons, List.length_nil]; rw [show (Str.ofString "").length = 0 from rfl]; omega) fun t' k => ?_
  refine ⟨⟨t', by rw [join2]⟩, _, _, rfl, fun b o e => Heap.get?_push_of_some _ e⟩
end
end Mine
end

section
open PySem PySem.W PyProof.Rows PySem.Calls
set_option Elab.async false
set_option linter.unusedVariables false
set_option maxRecDepth 100000
set_option maxHeartbeats 2000000
set_option pp.maxSteps 900
set_option pp.deepTerms false
namespace Mine
def rowStr : List WI → Str
  | [] => ⟨#[]⟩
  | p :: r => (" " : Str) ++ p.2.2.1 ++ rowStr r
theorem f_estr {w : World} : nsIn (Mine.top.heap_1 w.params) mainGlobals "EMPTYSTRING" = some (some (.str (Str.ofString "") 209)) := by kernel_rfl
theorem join_row : ∀ ws : List WI, Str.join ⟨#[]⟩ (ws.map fun p => (" " : Str) ++ p.2.2.1) = rowStr ws
  | [] => rfl
  | p :: r => by rw [List.map_cons, join_nil_cons, join_row r]; rfl
theorem items_row {ws : List WI} : ∀ {l : List (Str × Tok)}, ItemsOf (fun i v => ∃ t, v = Value.str ((ws[i]?.map fun p => (" " : Str) ++ p.2.2.1).getD ⟨#[]⟩) t) (strValues l).toArray ws.length → l.map (·.1) = ws.map fun p => (" " : Str) ++ p.2.2.1 := by
  intro l h
  refine List.ext_getElem? fun i => ?_
  obtain ⟨h1, h2⟩ := h
  have hlen : l.length = ws.length := by simpa [strValues] using h1
  by_cases hi : i < ws.length
  · have hil : i < l.length := by omega
    have e1 : l[i]? = some l[i] := List.getElem?_eq_getElem hil
    have e2 : ws[i]? = some ws[i] := List.getElem?_eq_getElem hi
    obtain ⟨t, ht⟩ := h2 i (.str l[i].1 l[i].2) (by simp [strValues, e1])
    rw [e2] at ht
    simp only [Option.map_some, Option.getD_some] at ht
    injection ht with ht _
    rw [List.getElem?_map, List.getElem?_map, e1, e2]
    simp only [Option.map_some, ht]
  · rw [List.getElem?_eq_none (by simpa using (by omega : l.length ≤ i)), List.getElem?_eq_none (by simpa using (by omega : ws.length ≤ i))]
end Mine
end

section
open PySem PySem.W PyProof.Rows PySem.Calls
set_option Elab.async false
set_option linter.unusedVariables false
set_option maxRecDepth 100000
set_option maxHeartbeats 2000000
set_option pp.maxSteps 900
set_option pp.deepTerms false
namespace Mine
theorem rowStr_len (ws : List WI) (h : ∀ p ∈ ws, p.2.2.1.length ≤ 1000) : ((ws.map fun p => (" " : Str) ++ p.2.2.1).map (·.length)).sum ≤ 1001 * ws.length := by
  induction ws with
  | nil => simp
  | cons p r ih =>
    have h1 := h p (.head _)
    have h2 := ih fun q hq => h q (.tail _ hq)
    have e1 : ((" " : Str) ++ p.2.2.1).length = 1 + p.2.2.1.length := by rw [Str.length_append]; rfl
    simp only [List.map_cons, List.sum_cons, List.length_cons, e1]
    omega
theorem stra_ok {w : World} {mean : ExcName → Option Value} {mg mb : Str → Option Value} : ∀ (dp un : Nat) (gd : Option (List Code)) (cn : Str) (cs : Scope) (a : Addr) (ccd : Value) (cl : List (Str × Addr)) (outer : List Env) (A₀ : Around) (base h₀ : Heap) (L : Addr) (m : Str → Option Value) (news : List (Addr × Obj)) (s : Shared) (Q E : Value → Shared → Prop) (x dx : Addr) (ws : List WI) (n : Nat) (hs : Int) (u : Tok) (v0 : Value) (p1 : Array Value),
    ∀ (hB : Below A₀ base outer h₀) (hF : Fr h₀ L s.heap m) (hX : (Mine.top.heap_1 w.params).In h₀) (hN : News h₀ L s.heap ((155, tabObj p1) :: news)) (hT : Top topProg (looseW Mine.top.view_1 [Str.ofString "_safe_string", Str.ofString "_Accumulator"] ++ List.map (fun x => x.name) (recsOf Mine.top.view_1) ++ List.map (fun x => x.fst) (litsOf Mine.top.view_1) ++ List.map (fun x => x.name) (clssOf Mine.top.view_1 (looseW Mine.top.view_1 [Str.ofString "_safe_string", Str.ofString "_Accumulator"]))) mean mg mb h₀) (hk : cs.kind = .function)
    (hd : dp + 7 < recursionLimit) (hu : un + 80 < cLine) (hG : AllBare s.gens) (ht1 : TriplesOk p1.toList)
    (hx : (x, accObj dx (refsOf ws) n) ∈ news) (hdx : (dx, iniOf hs u v0) ∈ news) (hws : ∀ p ∈ ws, (p.1, tupObj (pairVals p)) ∈ news) (hnt : ∀ p ∈ news, p.1 ≠ 155) (hwl : ws.length ≤ 100) (hwb : ∀ p ∈ ws, p.2.2.1.length ≤ 1000)
    (hret : ∀ r h' tk' g' p1', Fr h₀ L h' m → News h₀ L h' ((155, tabObj p1') :: news) → AllBare g' → TriplesOk p1'.toList → Q (.str (rowStr ws) r) { s with heap := h', gens := g', toks := tk' }),
    wpAny (model PySem.Challenge.rw_wu0081_01.row.prog w) (ktrTop dp un gd cn cs L a ccd cl outer) (call (.ref 160) [.ref x]) Q E s := by
  k_fill
  intro dp un gd cn cs a ccd cl outer A₀ base h₀ L m news s Q E x dx ws n hs u v0 p1 B F X N T hk hd hu hG ht1 hx hdx hws hnt hwl hwb hret
  obtain ⟨sh, sg, sd, st, so⟩ := s
  refine wpAny_call ?_
  k_dflt ktr_enter
  rename_i g' L' h' FG' F' N' B' X' T'
  have Xh := X'.keeps F'.keep
  have Th := T'.keeps F'.keep
  have hE : mg "EMPTYSTRING" = some (.str (Str.ofString "") 209) := mg_of X' T'.g f_estr
  have hxh : h'.get? x = some (accObj dx (refsOf ws) n) := (N' _ (.tail _ hx)).1
  have hPh : Pairs h' ws := fun p hp => (N' _ (.tail _ (hws p hp))).1
  have htb : h'.get? 155 = some (tabObj p1) := (N' _ (.head _)).1
  have hL' : L' ≠ 155 := fun e => (N' _ (.head _)).2.1 e.symm
  have hg0 : g'.get? 155 = none := (N' _ (.head _)).2.2
  k_steps
  refine gen_pairs (F := fun i v => ∃ t, v = .str ((ws[i]?.map fun p => (" " : Str) ++ p.2.2.1).getD ⟨#[]⟩) t) (ws := ws) rfl (by simp only [depth_deeper]; omega) rfl rfl (by decide) rfl rfl rfl rfl rfl rfl Xh Th hxh hPh (codeHd_of_K Xh f_codeHd159) htb ht1 (fun Q' hq => ?_) ?_ (fun _ => rfl) ?_
  · exact wpAny_Name (wpAny_loadName_local rfl rfl F'.ns rfl hq) (by decide)
  · intro A' E' i p s₂ C code m₂ hA hp hn ha hb Ng Nb
    have hpl := hwb p (List.mem_of_getElem? hp)
    refine wpAny_mono (elt_join rfl rfl rfl rfl Ng hE hn ha hb (by decide) hpl (by rfl)) (fun y s₃ h9 => ⟨?_, h9.2⟩) fun _ _ e => e
    obtain ⟨t, rfl⟩ := h9.1
    rw [hp]; exact ⟨t, rfl⟩
  · intro a5 h5 tk5 gs p5 fpG wrG St hgb hk5 ht5 htr5 ha5 W hfp hwr hgen hSt haf hst0
    have F5 := fr_mod F' hk5 hL' hg0
    have N5 := news_mod N' hk5 hnt ht5
    refine spliced_nil ?_
    have W := W.of_in1.of_in1
    refine SC.joinGen W hSt hst0 hfp haf (fun i v hv => ?_) (fun s' l hm hl => ?_) (by rw [sizeLine_eq]; omega)
    · obtain ⟨t, rfl⟩ := hv; exact ⟨_, _, rfl⟩
    · have el := items_row hl
      refine ⟨joinOk_of ?_, fun t' k => ?_⟩
      · rw [el, show (Str.ofString "").length = 0 from rfl]
        have := rowStr_len ws hwb
        omega
      · have hk6 : ∀ b o, b < h'.objs.size → h5.get? b = some o → s'.heap.get? b = some o := fun b o hb e => hm.heap b o (fun hw => Nat.lt_irrefl _ (Nat.lt_of_lt_of_le hb (hwr b hw))) e
        have F6 : Fr g' L' s'.heap _ := ⟨F5.ns.at' fun o e => hk6 L' o F'.ns.lt e, fun b o e => hk6 b o (Heap.lt_size (F'.keep b o e)) (F5.keep b o e), F5.above⟩
        have N6 : News g' L' s'.heap ((155, tabObj p5) :: news) := fun p hp => ⟨hk6 _ _ (by
          revert p; exact (allC (Heap.lt_size htb) (fun p hp => Heap.lt_size (N' p (.tail _ hp)).1))) (N5 p hp).1, (N5 p hp).2⟩
        have hG6 := (hG.push hgb).movedS hm
        rw [el, txt_join, join_row]
        refine leaveK_ F6 N6 fun kF kN => ?_
        have q1 : s'.drawn = sd := hm.drawn
        have q2 : s'.os = so := hm.os
        obtain ⟨h6, g6, d6, t6, o6⟩ := s'
        cases q1; cases q2
        exact hret _ _ _ _ _ kF kN hG6 htr5
end Mine
end

section
open PySem PySem.W PyProof.Rows PySem.Calls
set_option Elab.async false
set_option linter.unusedVariables false
set_option maxRecDepth 100000
set_option maxHeartbeats 400000
set_option pp.maxSteps 1200
set_option pp.deepTerms false
namespace Mine
theorem lt_of_all {d : Addr} {l : List (Addr × Obj)} (h : AllLt d l) : ∀ p ∈ l, @LT.lt Nat _ p.1 d := by
  induction l with
  | nil => intro p hp; cases hp
  | cons q r ih =>
    intro p hp
    rcases List.mem_cons.mp hp with rfl | hp
    · exact h.1
    · exact ih h.2 p hp
section
variable {w : World} {A : Around} {E : Value → Shared → Prop} {s : Shared} {x : Addr} {dx : Addr} {its : Array Value} {n : Nat}
theorem acc_tail {value slice : Expr} {i : Value} {ops : List Value} {Q : Value → Shared → Prop} (X : (Mine.top.heap_1 w.params).In s.heap) (hx : s.heap.get? x = some (accObj dx its n))
    (hg : wpAny (model PySem.Challenge.rw_wu0081_01.row.prog w) A (getItem (.ref x) i) Q E s)
    (hs : subscripted slice false (.ref x) i = operate ops (getItem (.ref x) i)) : wpAny (model PySem.Challenge.rw_wu0081_01.row.prog w) A (subscriptTail value slice (.ref x) i) Q E s := by
  have L0 : Looks (model PySem.Challenge.rw_wu0081_01.row.prog w) s.heap (typeOf (.ref x)) (.ref 186) := (Looks.ld hx).andThen .now
  unfold subscriptTail getitemInPython specialOf
  refine wpAny_bind (wpAny_bind (wpAny_bind (L0.here ((looks_findIn X f_gi).here ?_))))
  refine wpAny_pure (wpAny_bind ?_)
  rw [hs]
  exact wpAny_operating (wpAny_mono hg (fun r s₃ h₃ => wpAny_bind (wpAny_letTemporaryGo (wpAny_pure h₃))) fun _ _ x => x)
theorem acc_slice_K {h₀ : Heap} {L : Addr} {m : Str → Option Value} {news : List (Addr × Obj)} {value slice : Expr} {ops : List Value} {sl : Addr} {vl vu vs : Value} {lo hi st : Option Int} {Q : Value → Shared → Prop} (F : Fr h₀ L s.heap m) (X₀ : (Mine.top.heap_1 w.params).In h₀) (N : News h₀ L s.heap news) (hx : s.heap.get? x = some (accObj dx its n))
    (hs : s.heap.IsSliceOf sl vl vu vs) (pl : IsPart vl lo) (pu : IsPart vu hi) (ps : IsPart vs st) (h0 : st ≠ some 0) (hsz : its.size ≤ 1000) (he : subscripted slice false (.ref x) (.ref sl) = operate ops (getItem (.ref x) (.ref sl)))
    (hq : ∀ r h2, Fr h₀ L h2 m → News h₀ L h2 ((r, listOf (slicePick its lo hi st) 0) :: news) → (∀ p ∈ news, p.1 < r) → Q (.ref r) { s with heap := h2 }) :
    wpAny (model PySem.Challenge.rw_wu0081_01.row.prog w) A (subscriptTail value slice (.ref x) (.ref sl)) Q E s := by
  obtain ⟨h, g, d, t, os⟩ := s
  refine acc_tail (X₀.keeps F.keep) hx ?_ he
  refine acc_getItem_slice (X₀.keeps F.keep) hx hs pl pu ps h0 ?_ hsz
  obtain ⟨F2, N2, l2⟩ := ks_newsPush (s := ⟨h, g, d, t, os⟩) F N rfl (Heap.get?_push_size (o := listOf (slicePick its lo hi st) 0) _ rfl) (fun b o e => Heap.get?_push_of_some _ e)
  exact hq _ _ F2 N2 l2
theorem acc_setslice_K {h₀ : Heap} {L : Addr} {m : Str → Option Value} {news : List (Addr × Obj)} {gg : Obj → List (Addr × Obj)} {sl y : Addr} {vl vu : Value} {lo hi : Option Int} {ys its' : Array Value} {ny : Nat} {Q : Unit → Shared → Prop} (F : Fr h₀ L s.heap m) (X₀ : (Mine.top.heap_1 w.params).In h₀) (N : News h₀ L s.heap news) (U : UpdF x (accObj dx its n) news gg)
    (hs : s.heap.IsSliceOf sl vl vu .none) (pl : IsPart vl lo) (pu : IsPart vu hi) (hy : (y, listOf ys ny) ∈ news)
    (he : its.extract 0 (sliceBounds lo hi none its.size).1.toNat ++ ys ++ its.extract (max (sliceBounds lo hi none its.size).1 (sliceBounds lo hi none its.size).2.1).toNat its.size = its')
    (h1 : (sliceBounds lo hi none its.size).2.2 = 1) (hsz : its.size ≤ 400) (hsy : ys.size ≤ 400) (hsz' : its'.size ≤ 1001)
    (hq : ∀ h' n', Fr h₀ L h' m → News h₀ L h' (gg (accObj dx its' n')) → Q () { s with heap := h' }) : wpAny (model PySem.Challenge.rw_wu0081_01.row.prog w) A (setItem (.ref x) (.ref sl) (.ref y)) Q E s := by
  obtain ⟨h, g, d, t, os⟩ := s
  have hx := (N _ (upd_mem U).1).1
  have hy' := (N _ hy).1
  have hxy : x ≠ y := fun e => by subst e; rw [show h.get? x = _ from hx] at hy'; cases hy'
  refine acc_setItem_slice (X₀.keeps F.keep) hx hs pl pu hy' hxy he h1 (fun h' n' s' e' => ?_) hsz hsy hsz'
  obtain ⟨F2, N2⟩ := fn_upd F N U (same_other s') e'
  exact hq _ _ F2 N2
end
end Mine
end

section
open PySem PySem.W PyProof.Rows PySem.Calls
set_option Elab.async false
set_option linter.unusedVariables false
set_option maxRecDepth 100000
set_option maxHeartbeats 2000000
set_option pp.maxSteps 1200
set_option pp.deepTerms false
namespace Mine
theorem popf_ok {w : World} {mean : ExcName → Option Value} {mg mb : Str → Option Value} : ∀ (dp un : Nat) (gd : Option (List Code)) (cn : Str) (cs : Scope) (a : Addr) (ccd : Value) (cl : List (Str × Addr)) (outer : List Env) (A₀ : Around) (base h₀ : Heap) (L : Addr) (m : Str → Option Value) (news : List (Addr × Obj)) (s : Shared) (Q E : Value → Shared → Prop) (x dx : Addr) (l : List Value) (v : Value) (n : Nat) (hs : Int) (u : Tok) (v0 : Value) (gg : Obj → List (Addr × Obj)) (t0 : Tok),
    ∀ (hB : Below A₀ base outer h₀) (hF : Fr h₀ L s.heap m) (hX : (Mine.top.heap_1 w.params).In h₀) (hN : News h₀ L s.heap news) (hT : Top topProg (looseW Mine.top.view_1 [Str.ofString "_safe_string", Str.ofString "_Accumulator"] ++ List.map (fun x => x.name) (recsOf Mine.top.view_1) ++ List.map (fun x => x.fst) (litsOf Mine.top.view_1) ++ List.map (fun x => x.name) (clssOf Mine.top.view_1 (looseW Mine.top.view_1 [Str.ofString "_safe_string", Str.ofString "_Accumulator"]))) mean mg mb h₀) (hk : cs.kind = .function) (hd : dp + 4 < recursionLimit) (hu : un + 80 < cLine)
    (hU : UpdF x (accObj dx (l ++ [v]).toArray n) news gg) (hx : (x, accObj dx (l ++ [v]).toArray n) ∈ news) (hdx : (dx, iniOf hs u v0) ∈ news) (hsz : l.length ≤ 100)
    (hret : ∀ r h' tk' n' nr, Fr h₀ L h' m → News h₀ L h' ((r, listOf #[v] nr) :: gg (accObj dx l.toArray n')) → (∀ p ∈ news, p.1 < r) → Q (.ref r) { s with heap := h', toks := tk' }),
    wpAny (model PySem.Challenge.rw_wu0081_01.row.prog w) (ktrTop dp un gd cn cs L a ccd cl outer) (call (.ref 138) [.ref x, .int l.length t0]) Q E s := by
  k_fill
  intro dp un gd cn cs a ccd cl outer A₀ base h₀ L m news s Q E x dx l v n hs u v0 gg t0 B F X N T hk hd hu U hx hdx hsz hret
  refine wpAny_call ?_
  k_dflt (refine' code_def ?k1 ?k2 ?k3 ?k4 ?k5 ?kA ?kF ?kK ?k6 ?k7 ?k8 ?k9 ?kB ?_ ?c2 ?c3 ?c4 ?c5; (case kA => exact rfl); (case kF => exact rfl); (case kK => assumption); (case k1 => k_asm); (case k2 => k_asm); (case k3 => k_asm); (case k4 => k_asm); (case k5 => k_asm); (case k6 => k_is); (case k7 => k_is); (case k8 => ktr_room); (case k9 => first | exact BindsTo.of_eq rfl | exact binds_K (by k_in) rfl (by k_is) rfl rfl rfl); (case c5 => decide); (case kB => exact locs rfl); (case c2 => exact rfl); (case c3 => exact rfl); (case c4 => exact rfl); k_whole; intro g' L' h' FG' F' N' B' X' T'; (try dsimp only); (try k_fold))
  k_steps
  obtain ⟨F1, N1, l1⟩ := ks_newsPush (s := ⟨h', s.gens, s.drawn, s.toks, s.os⟩) F' N' rfl (Heap.get?_push_size (o := { cls := .type "slice", data := .fields #[.int l.length t0, .none, .none] }) _ rfl) (fun b o e => Heap.get?_push_of_some _ e)
  have hs1 := Heap.IsSliceOf.new h' (.int l.length t0) .none .none
  dsimp only at F1 N1 l1 ⊢
  generalize h'.push { cls := .type "slice", data := .fields #[.int l.length t0, .none, .none] } = h1 at F1 N1 hs1 ⊢
  generalize h'.objs.size = sl at N1 l1 hs1 ⊢
  refine acc_slice_K F1 X' N1 (N1 _ (.tail _ hx)).1 hs1 (.int _ _) .none .none (by decide) (by simp; omega) (by with_unfolding_all rfl) fun r h2 F2 N2 l2 => ?_
  have ep : slicePick (l ++ [v]).toArray (some (l.length : Int)) none none = #[v] := by
    rw [slicePick_from _ _ (by simp)]; simp
  rw [ep] at N2
  k_steps
  (with_reducible rename Fr g' L' _ _ => F3)
  (with_reducible rename News g' L' _ _ => N3)
  rename_i hz1 tk3 y3 h3 l3
  obtain ⟨F4, N4, l4⟩ := ks_newsPush (s := ⟨h3, s.gens, s.drawn, s.toks, s.os⟩) F3 N3 rfl (Heap.get?_push_size (o := { cls := .type "slice", data := .fields #[.int l.length t0, .none, .none] }) _ rfl) (fun b o e => Heap.get?_push_of_some _ e)
  have hs4 := Heap.IsSliceOf.new h3 (.int l.length t0) .none .none
  dsimp only at F4 N4 l4 ⊢
  generalize h3.push { cls := .type "slice", data := .fields #[.int l.length t0, .none, .none] } = h4 at F4 N4 hs4 ⊢
  generalize h3.objs.size = sl4 at N4 l4 hs4 ⊢
  have U4 := UpdF.tail (p := (sl4, { cls := .type "slice", data := .fields #[.int l.length t0, .none, .none] })) (Nat.ne_of_gt (l4 _ (.tail _ (.tail _ (.tail _ hx))))) (UpdF.tail (p := (y3, W.listOf #[] 0)) (Nat.ne_of_gt (lt_of_all l3.2.2 _ hx))
    (UpdF.tail (p := (r, listOf #[v] 0)) (Nat.ne_of_gt (l2 _ (.tail _ hx))) (UpdF.tail (p := (sl, { cls := .type "slice", data := .fields #[.int l.length t0, .none, .none] })) (Nat.ne_of_gt (l1 _ hx)) U)))
  have eb : sliceBounds (some (l.length : Int)) none none (l ++ [v]).toArray.size = ((l.length : Int), ((l.length + 1 : Nat) : Int), 1) := by
    unfold sliceBounds; simp; rw [if_neg (Int.not_lt.mpr (Int.natCast_nonneg _)), Int.min_eq_left (Int.le_add_one (Int.le_refl _)), Int.max_eq_right (Int.natCast_nonneg _)]
  refine acc_setslice_K (its' := l.toArray) F4 X' N4 U4 hs4 (.int _ _) .none (.tail _ (.head _)) (by rw [eb]; simp; omega) (by rw [eb]) (by simp; omega) (by simp) (by simp; omega) fun h5 n5 F5 N5 => ?_
  k_steps
  rename_i kF kN kT kX
  exact hret _ _ _ _ _ kF (fun p hp => kN p (.tail _ (.tail _ (by rcases List.mem_cons.mp hp with rfl | hp; exact .head _; exact .tail _ (.tail _ hp))))) (fun p hp => l2 p (.tail _ hp))
end Mine
end

section
open PySem PySem.W PyProof.Rows PySem.Calls
set_option Elab.async false
set_option linter.unusedVariables false
set_option maxRecDepth 100000
set_option maxHeartbeats 2000000
set_option pp.maxSteps 1200
set_option pp.deepTerms false
namespace Mine
theorem rset_ok {w : World} {mean : ExcName → Option Value} {mg mb : Str → Option Value} : ∀ (dp un : Nat) (gd : Option (List Code)) (cn : Str) (cs : Scope) (a : Addr) (ccd : Value) (cl : List (Str × Addr)) (outer : List Env) (A₀ : Around) (base h₀ : Heap) (L : Addr) (m : Str → Option Value) (news : List (Addr × Obj)) (s : Shared) (Q E : Value → Shared → Prop) (x dx : Addr) (its : Array Value) (v : Value) (n : Nat) (hs : Int) (u : Tok) (v0 : Value) (r : Addr) (nr : Nat) (rest : List (Addr × Obj)) (hnews : news = (x, accObj dx its n) :: (dx, iniOf hs u v0) :: rest),
    ∀ (hB : Below A₀ base outer h₀) (hF : Fr h₀ L s.heap m) (hX : (Mine.top.heap_1 w.params).In h₀) (hN : News h₀ L s.heap news) (hT : Top topProg (looseW Mine.top.view_1 [Str.ofString "_safe_string", Str.ofString "_Accumulator"] ++ List.map (fun x => x.name) (recsOf Mine.top.view_1) ++ List.map (fun x => x.fst) (litsOf Mine.top.view_1) ++ List.map (fun x => x.name) (clssOf Mine.top.view_1 (looseW Mine.top.view_1 [Str.ofString "_safe_string", Str.ofString "_Accumulator"]))) mean mg mb h₀) (hk : cs.kind = .function) (hd : dp + 4 < recursionLimit) (hu : un + 80 < cLine)
    (hrx : ∀ p ∈ rest, p.1 ≠ x) (hrd : ∀ p ∈ rest, p.1 ≠ dx) (hsz : its.size ≤ 100) (hr : (r, listOf #[v] nr) ∈ rest)
    (hret : ∀ h' tk' n' z, Fr h₀ L h' m → News h₀ L h' ((x, accObj dx #[v] n') :: (dx, iniOf hs u (.int 0 z)) :: rest) → Q .none { s with heap := h', toks := tk' }),
    wpAny (model PySem.Challenge.rw_wu0081_01.row.prog w) (ktrTop dp un gd cn cs L a ccd cl outer) (call (.ref 168) [.ref x, .ref r]) Q E s := by
  k_fill
  intro dp un gd cn cs a ccd cl outer A₀ base h₀ L m news s Q E x dx its v n hs u v0 r nr rest hnews B F X N T hk hd hu hrx hrd hsz hr hret
  subst hnews
  have hxd : dx ≠ x := fun e => by have h1 := (N _ (.head _)).1; have h2 := (N _ (.tail _ (.head _))).1; rw [show (dx, iniOf hs u v0).1 = x from e, show s.heap.get? x = _ from h1] at h2; cases h2
  have hrm : (r, listOf #[v] nr) ∈ (x, accObj dx its n) :: (dx, iniOf hs u v0) :: rest := .tail _ (.tail _ hr)
  refine wpAny_call ?_
  k_dflt (refine' code_def ?k1 ?k2 ?k3 ?k4 ?k5 ?kA ?kF ?kK ?k6 ?k7 ?k8 ?k9 ?kB ?_ ?c2 ?c3 ?c4 ?c5; (case kA => exact rfl); (case kF => exact rfl); (case kK => assumption); (case k1 => k_asm); (case k2 => k_asm); (case k3 => k_asm); (case k4 => k_asm); (case k5 => k_asm); (case k6 => k_is); (case k7 => k_is); (case k8 => ktr_room); (case k9 => first | exact BindsTo.of_eq rfl | exact binds_K (by k_in) rfl (by k_is) rfl rfl rfl); (case c5 => decide); (case kB => exact locs rfl); (case c2 => exact rfl); (case c3 => exact rfl); (case c4 => exact rfl); k_whole; intro g' L' h' FG' F' N' B' X' T'; (try dsimp only); (try k_fold))
  k_steps
  (with_reducible rename Fr g' L' _ _ => F1)
  (with_reducible rename News g' L' _ _ => N1)
  obtain ⟨F4, N4, l4⟩ := ks_newsPush (s := ⟨h', s.gens, s.drawn, s.toks, s.os⟩) F1 N1 rfl (Heap.get?_push_size (o := { cls := .type "slice", data := .fields #[.none, .none, .none] }) _ rfl) (fun b o e => Heap.get?_push_of_some _ e)
  have hs4 := Heap.IsSliceOf.new h' .none .none .none
  dsimp only at F4 N4 l4 ⊢
  generalize h'.push { cls := .type "slice", data := .fields #[.none, .none, .none] } = h4 at F4 N4 hs4 ⊢
  generalize h'.objs.size = sl4 at N4 l4 hs4 ⊢
  have U0 : UpdF x (accObj dx its n) ((x, accObj dx its n) :: (dx, iniOf hs u v0) :: rest) (fun o => (x, o) :: (dx, iniOf hs u v0) :: rest) := UpdF.head (fun p hp => by
    revert p; exact (allC (hxd) (fun p hp => hrx p hp)))
  have U4 := UpdF.tail (p := (sl4, { cls := .type "slice", data := .fields #[.none, .none, .none] })) (Nat.ne_of_gt (l4 _ (.head _))) U0
  have eb : sliceBounds none none none its.size = (0, (its.size : Int), 1) := rfl
  refine acc_setslice_K (its' := #[v]) F4 X' N4 U4 hs4 .none .none (.tail _ (.tail _ (.tail _ hr))) (by rw [eb]; simp) (by rw [eb]) (by omega) (by simp) (by simp) fun h5 n5 F5 N5 => ?_
  k_steps
  have U5 : UpdF dx (iniOf hs u v0) ((sl4, { cls := .type "slice", data := .fields #[.none, .none, .none] }) :: (x, accObj dx #[v] n5) :: (dx, iniOf hs u v0) :: rest) (fun o => (sl4, { cls := .type "slice", data := .fields #[.none, .none, .none] }) :: (x, accObj dx #[v] n5) :: (dx, o) :: rest) :=
    UpdF.tail (Nat.ne_of_gt (l4 _ (.tail _ (.head _)))) (UpdF.tail (fun e => hxd e.symm) (UpdF.head hrd))
  refine acc_set (es := []) (k := 0) (X'.keeps F5.keep) (N5 _ (.tail _ (.head _))).1 (N5 _ (.tail _ (.tail _ (.head _)))).1 (by rw [look_ini]; rfl) (fun tk => ⟨_, _, put_ini _ _ _ _ _ _, by simp⟩) (fun tk6 h6 s6 e6 => ?_)
  rw [put_ini] at e6
  obtain ⟨F6, N6⟩ := fn_upd F5 N5 U5 (same_other s6) e6
  k_steps
  rename_i kF kN kT kX
  exact hret _ _ _ _ kF fun p hp => kN p (.tail _ hp)
end Mine
end

theorem Mine.rs4 {M : Model} {A : Around} {Q : Nat → Shared → Prop} {E : Value → Shared → Prop} {s : Shared} (h : wpAny M A (pure 1) Q E s) : wpAny M A (pure 1) Q E s := by first | (walk1; fail) | exact h
section
open PySem PySem.W PyProof.Rows PySem.Calls
set_option Elab.async false
set_option linter.unusedVariables false
set_option maxRecDepth 100000
set_option maxHeartbeats 2000000
set_option pp.maxSteps 1200
set_option pp.deepTerms false
namespace Mine
local macro_rules | `(tactic| walk_at $s) => if s.getString == "getMethod ref" then `(tactic| refine stop_here ?_) else Lean.Macro.throwUnsupported
theorem acc_make_K {w : World} {A : Around} {s : Shared} {R : Result → Shared → Prop} {rest : List Value} {kw : List (Str × Value)} {h₀ : Heap} {L : Addr} {m : Str → Option Value} {news : List (Addr × Obj)} (F : Fr h₀ L s.heap m) (X₀ : (Mine.top.heap_1 w.params).In h₀) (N : News h₀ L s.heap news)
    (hq : ∀ x dx h2, Fr h₀ L h2 m → News h₀ L h2 ((x, accObj dx #[] 0) :: (dx, emptyDict) :: news) → (∀ p ∈ news, p.1 < dx) → dx < x →
      codeAny (model PySem.Challenge.rw_wu0081_01.row.prog w) (A.under (.builtin "type.__call__" ⟨.ref 186 :: rest, kw⟩)) (.call (.ref 123) ⟨.ref x :: rest, kw⟩) (InitBack x R) { s with heap := h2 }) :
    codeAny (model PySem.Challenge.rw_wu0081_01.row.prog w) A (.call (.ref 186) ⟨rest, kw⟩) R s := by
  obtain ⟨sh, sg, sd, st, so⟩ := s
  refine acc_make (X₀.keeps F.keep) ?_
  obtain ⟨F1, N1, l1⟩ := ks_newsPush (s := ⟨sh, sg, sd, st, so⟩) (h' := sh.push emptyDict) F N rfl (Heap.get?_push_size (o := emptyDict) _ rfl) (fun b o e => Heap.get?_push_of_some _ e)
  obtain ⟨F2, N2, l2⟩ := ks_newsPush (s := ⟨sh.push emptyDict, sg, sd, st, so⟩) (h' := (sh.push emptyDict).push (accObj sh.objs.size #[] 0)) F1 N1 rfl (Heap.get?_push_size (o := accObj sh.objs.size #[] 0) _ rfl) (fun b o e => Heap.get?_push_of_some _ e)
  have es : (sh.push emptyDict).objs.size = sh.objs.size + 1 := Heap.size_push ..
  rw [show (Shared.heap ⟨sh.push emptyDict, sg, sd, st, so⟩).objs.size = sh.objs.size + 1 from es] at N2 l2
  exact hq _ _ _ F2 N2 l1 (l2 _ (.head _))
theorem entry_lini : entryFor table "list.__init__" = some Builtin.«list.__init__» := entryFor_of_tree (by kernel_rfl)
theorem mkac_ok {w : World} {mean : ExcName → Option Value} {mg mb : Str → Option Value} : ∀ (dp un : Nat) (gd : Option (List Code)) (cn : Str) (cs : Scope) (a : Addr) (ccd : Value) (cl : List (Str × Addr)) (outer : List Env) (A₀ : Around) (base h₀ : Heap) (L : Addr) (m : Str → Option Value) (news : List (Addr × Obj)) (s : Shared) (Q E : Value → Shared → Prop) (rest : List Value) (hr : rest = [] ∨ ∃ z, rest = [.int 0 z]),
    ∀ (hB : Below A₀ base outer h₀) (hF : Fr h₀ L s.heap m) (hX : (Mine.top.heap_1 w.params).In h₀) (hN : News h₀ L s.heap news) (hT : Top topProg (looseW Mine.top.view_1 [Str.ofString "_safe_string", Str.ofString "_Accumulator"] ++ List.map (fun x => x.name) (recsOf Mine.top.view_1) ++ List.map (fun x => x.fst) (litsOf Mine.top.view_1) ++ List.map (fun x => x.name) (clssOf Mine.top.view_1 (looseW Mine.top.view_1 [Str.ofString "_safe_string", Str.ofString "_Accumulator"]))) mean mg mb h₀) (hk : cs.kind = .function) (hd : dp + 4 < recursionLimit) (hu : un + 80 < cLine)
    (hret : ∀ x dx n' hs u z h' tk', Fr h₀ L h' m → News h₀ L h' ((x, accObj dx #[] n') :: (dx, iniOf hs u (.int 0 z)) :: news) → (∀ p ∈ news, p.1 < dx) → dx < x → Q (.ref x) { s with heap := h', toks := tk' }),
    wpAny (model PySem.Challenge.rw_wu0081_01.row.prog w) (ktrTop dp un gd cn cs L a ccd cl outer) (call (.ref 186) rest) Q E s := by
  k_fill
  intro dp un gd cn cs a ccd cl outer A₀ base h₀ L m news s Q E rest hr B F X N T hk hd hu hret
  rcases hr with rfl | ⟨z, rfl⟩
  · refine wpAny_call (acc_make_K F X N fun x dx h2 F2 N2 la lb => ?_)
    have hdx : dx ≠ x := Nat.ne_of_lt lb
    k_dflt (refine' ks_code_super ?k1 ?k2 ?k3 ?k4 ?k5 ?kA ?kF ?kK ?k6 ?k7 ?k8 ?k9 ?kB ?_ ?c1 ?c2 ?c3 ?c4; (case kA => exact rfl); (case kF => exact rfl); (case kK => assumption); (case k1 => k_asm); (case k2 => k_asm); (case k3 => k_asm); (case k4 => k_asm); (case k5 => k_asm); (case k6 => k_is); (case k7 => k_is); (case k8 => ktr_room); (case k9 => first | exact BindsTo.of_eq rfl | exact binds_K (by k_in) rfl (by k_is) rfl rfl rfl); (case kB => exact locs rfl); (case c1 => decide); (case c2 => exact rfl); (case c3 => exact rfl); (case c4 => exact rfl); intro g' L' h' FG' F' N' B' X' T' l1; (try dsimp only))
    have U0 : UpdF dx emptyDict ((x, accObj dx #[] 0) :: (dx, emptyDict) :: news) (fun o => (x, accObj dx #[] 0) :: (dx, o) :: news) := UpdF.tail (fun e => hdx e.symm) (UpdF.head fun p hp => Nat.ne_of_lt (la p hp))
    k_steps
    all_goals (try unfold Stop)
    refine acc_set (es := []) (k := 0) (X'.keeps F'.keep) (N' _ (.head _)).1 (N' _ (.tail _ (.head _))).1 (by kernel_rfl) (fun tk => ⟨_, _, put_empty _ _ _, by simp⟩) (fun tk6 h6 s6 e6 => ?_)
    rw [show (dx, emptyDict).2 = dictOf [] 0 from rfl, put_empty] at e6
    obtain ⟨F6, N6⟩ := fn_upd F' N' U0 (same_other s6) e6
    clear F' N' U0
    refine ks_wpAt_execs_cons ?_
    refine ks_wpAt_Expr_any ?_
    refine ks_wpAt_MethodCall ?_
    have I2 : W.InstAt h6 x (accObj dx #[] 0) 186 (some (iniOf (PyData.keyHash w.params "_initial_size") tk6 (.int 0 331))) := acc_inst (N6 _ (.head _)).1 (N6 _ (.tail _ (.head _))).1
    refine ks_node F6 X' N6 T' (by k_is) (by rfl) (by rfl) I2 (by k_is) (by rfl) (by first | rfl | decide +kernel) (by k_is) (by k_is) (by k_is) (by k_is) (by decide) (by rfl) (by rfl) (by rfl) (by rfl) (by decide +kernel) (by first | boot_by_name | rfl | kernel_rfl) ?_
    intro so h7 F7 N7 l7
    have X2 := X'.keeps F7.keep
    have hx2 := (N7 _ (.tail _ (.head _))).1
    have hxC : x ≠ 186 := acc_ne X' (N7 _ (.tail _ (.head _))).2.2
    refine getMethod_super (v := .none) _ (N7 _ (.head _)).1 X2 hx2 f_sini type_ini lk_wd_get (by decide) hxC (fun A' Q' E' q => bind_ini X2 hx2 q) ?_
    obtain ⟨F3, N3, l3⟩ := ks_newsPush (s := ⟨h7, s.gens, s.drawn, s.toks, s.os⟩) F7 N7 rfl (Heap.get?_push_size (o := bndObj "method-wrapper" "list.__init__" x) _ rfl) (fun b o e => Heap.get?_push_of_some _ e)
    refine callWith_bnd0 (.inr rfl) (N3 _ (.head _)).1 ?_
    have hx3 := (N3 _ (.tail _ (.tail _ (.head _)))).1
    refine wpAny_call (call_bound (bt := "method-wrapper") (by decide) (N3 _ (.head _)).1 (fun A' Q' E' q => chk_ini (X'.keeps F3.keep) hx3 q) (by decide +kernel) entry_lini ?_)
    refine run_ini hx3 (fun h4 s4 e4 => ?_)
    have U4 : UpdF x (accObj dx #[] 0) _ _ := UpdF.tail (p := (h7.objs.size, bndObj "method-wrapper" "list.__init__" x)) (Nat.ne_of_gt (l3 _ (.tail _ (.head _)))) (UpdF.tail (p := (so, ks_superObj 186 x 186)) (Nat.ne_of_gt (l7 _ (.head _)))
      (UpdF.head (r := (dx, iniOf (PyData.keyHash w.params "_initial_size") tk6 (.int 0 331)) :: news) fun p hp => by
        revert p; exact (allC (hdx) (fun p hp => Nat.ne_of_lt (Nat.lt_trans (la p hp) lb)))))
    obtain ⟨F4, N4⟩ := fn_upd F3 N3 U4 (same_other s4) e4
    k_steps
    all_goals (try unfold Stop)
    rename_i kF kN kT kX
    exact hret _ _ _ _ _ _ _ _ kF (fun p hp => kN p (.tail _ (.tail _ hp))) la lb
  · refine wpAny_call (acc_make_K F X N fun x dx h2 F2 N2 la lb => ?_)
    have hdx : dx ≠ x := Nat.ne_of_lt lb
    k_dflt (refine' ks_code_super ?k1 ?k2 ?k3 ?k4 ?k5 ?kA ?kF ?kK ?k6 ?k7 ?k8 ?k9 ?kB ?_ ?c1 ?c2 ?c3 ?c4; (case kA => exact rfl); (case kF => exact rfl); (case kK => assumption); (case k1 => k_asm); (case k2 => k_asm); (case k3 => k_asm); (case k4 => k_asm); (case k5 => k_asm); (case k6 => k_is); (case k7 => k_is); (case k8 => ktr_room); (case k9 => first | exact BindsTo.of_eq rfl | exact binds_K (by k_in) rfl (by k_is) rfl rfl rfl); (case kB => exact locs rfl); (case c1 => decide); (case c2 => exact rfl); (case c3 => exact rfl); (case c4 => exact rfl); intro g' L' h' FG' F' N' B' X' T' l1; (try dsimp only))
    have U0 : UpdF dx emptyDict ((x, accObj dx #[] 0) :: (dx, emptyDict) :: news) (fun o => (x, accObj dx #[] 0) :: (dx, o) :: news) := UpdF.tail (fun e => hdx e.symm) (UpdF.head fun p hp => Nat.ne_of_lt (la p hp))
    k_steps
    all_goals (try unfold Stop)
    refine acc_set (es := []) (k := 0) (X'.keeps F'.keep) (N' _ (.head _)).1 (N' _ (.tail _ (.head _))).1 (by kernel_rfl) (fun tk => ⟨_, _, put_empty _ _ _, by simp⟩) (fun tk6 h6 s6 e6 => ?_)
    rw [show (dx, emptyDict).2 = dictOf [] 0 from rfl, put_empty] at e6
    obtain ⟨F6, N6⟩ := fn_upd F' N' U0 (same_other s6) e6
    clear F' N' U0
    refine ks_wpAt_execs_cons ?_
    refine ks_wpAt_Expr_any ?_
    refine ks_wpAt_MethodCall ?_
    have I2 : W.InstAt h6 x (accObj dx #[] 0) 186 (some (iniOf (PyData.keyHash w.params "_initial_size") tk6 (.int 0 z))) := acc_inst (N6 _ (.head _)).1 (N6 _ (.tail _ (.head _))).1
    refine ks_node F6 X' N6 T' (by k_is) (by rfl) (by rfl) I2 (by k_is) (by rfl) (by first | rfl | decide +kernel) (by k_is) (by k_is) (by k_is) (by k_is) (by decide) (by rfl) (by rfl) (by rfl) (by rfl) (by decide +kernel) (by first | boot_by_name | rfl | kernel_rfl) ?_
    intro so h7 F7 N7 l7
    have X2 := X'.keeps F7.keep
    have hx2 := (N7 _ (.tail _ (.head _))).1
    have hxC : x ≠ 186 := acc_ne X' (N7 _ (.tail _ (.head _))).2.2
    refine getMethod_super (v := .none) _ (N7 _ (.head _)).1 X2 hx2 f_sini type_ini lk_wd_get (by decide) hxC (fun A' Q' E' q => bind_ini X2 hx2 q) ?_
    obtain ⟨F3, N3, l3⟩ := ks_newsPush (s := ⟨h7, s.gens, s.drawn, s.toks, s.os⟩) F7 N7 rfl (Heap.get?_push_size (o := bndObj "method-wrapper" "list.__init__" x) _ rfl) (fun b o e => Heap.get?_push_of_some _ e)
    refine callWith_bnd0 (.inr rfl) (N3 _ (.head _)).1 ?_
    have hx3 := (N3 _ (.tail _ (.tail _ (.head _)))).1
    refine wpAny_call (call_bound (bt := "method-wrapper") (by decide) (N3 _ (.head _)).1 (fun A' Q' E' q => chk_ini (X'.keeps F3.keep) hx3 q) (by decide +kernel) entry_lini ?_)
    refine run_ini hx3 (fun h4 s4 e4 => ?_)
    have U4 : UpdF x (accObj dx #[] 0) _ _ := UpdF.tail (p := (h7.objs.size, bndObj "method-wrapper" "list.__init__" x)) (Nat.ne_of_gt (l3 _ (.tail _ (.head _)))) (UpdF.tail (p := (so, ks_superObj 186 x 186)) (Nat.ne_of_gt (l7 _ (.head _)))
      (UpdF.head (r := (dx, iniOf (PyData.keyHash w.params "_initial_size") tk6 (.int 0 z)) :: news) fun p hp => by
        revert p; exact (allC (hdx) (fun p hp => Nat.ne_of_lt (Nat.lt_trans (la p hp) lb)))))
    obtain ⟨F4, N4⟩ := fn_upd F3 N3 U4 (same_other s4) e4
    k_steps
    all_goals (try unfold Stop)
    rename_i kF kN kT kX
    exact hret _ _ _ _ _ _ _ _ kF (fun p hp => kN p (.tail _ (.tail _ hp))) la lb
end Mine
end

theorem Mine.rs5 {M : Model} {A : Around} {Q : Nat → Shared → Prop} {E : Value → Shared → Prop} {s : Shared} (h : wpAny M A (pure 1) Q E s) : wpAny M A (pure 1) Q E s := by first | (walk1; fail) | exact h
section
open PySem PySem.W PyProof.Rows PySem.Calls
set_option Elab.async false
set_option linter.unusedVariables false
set_option maxRecDepth 100000
set_option maxHeartbeats 2000000
set_option pp.maxSteps 2200
set_option pp.deepTerms false
local macro_rules | `(tactic| k_room) => `(tactic| ktr_room)
local macro_rules | `(tactic| k_units) => `(tactic| ktr_units)
namespace Mine
abbrev fmtObj (P : Params) (k1 k2 k3 k4 k5 k6 : Tok) (wd : Int) (t1 t2 t3 t4 : Tok) (ln x : Addr) : Obj :=
  dictOf [⟨PyData.keyHash P "_maxlen", .str "_maxlen" k1, .int wd t1⟩, ⟨PyData.keyHash P "_continuation_ws", .str "_continuation_ws" k2, .str " " t2⟩, ⟨PyData.keyHash P "_continuation_ws_len", .str "_continuation_ws_len" k3, .int 1 t3⟩,
    ⟨PyData.keyHash P "_splitchars", .str "_splitchars" k4, .str " " t4⟩, ⟨PyData.keyHash P "_lines", .str "_lines" k5, .ref ln⟩, ⟨PyData.keyHash P "_current_line", .str "_current_line" k6, .ref x⟩] 6
local macro_rules | `(tactic| walk_at $s) => if s.getString == "call ref" then `(tactic| refine stop_here ?_) else Lean.Macro.throwUnsupported
theorem mkvf_ok {w : World} {mean : ExcName → Option Value} {mg mb : Str → Option Value} : ∀ (dp un : Nat) (gd : Option (List Code)) (cn : Str) (cs : Scope) (a : Addr) (ccd : Value) (cl : List (Str × Addr)) (outer : List Env) (A₀ : Around) (base h₀ : Heap) (L : Addr) (m : Str → Option Value) (news : List (Addr × Obj)) (s : Shared) (Q E : Value → Shared → Prop) (wd : Int) (t0 t1 t2 t3 : Tok),
    ∀ (hB : Below A₀ base outer h₀) (hF : Fr h₀ L s.heap m) (hX : (Mine.top.heap_1 w.params).In h₀) (hN : News h₀ L s.heap news) (hT : Top topProg (looseW Mine.top.view_1 [Str.ofString "_safe_string", Str.ofString "_Accumulator"] ++ List.map (fun x => x.name) (recsOf Mine.top.view_1) ++ List.map (fun x => x.fst) (litsOf Mine.top.view_1) ++ List.map (fun x => x.name) (clssOf Mine.top.view_1 (looseW Mine.top.view_1 [Str.ofString "_safe_string", Str.ofString "_Accumulator"]))) mean mg mb h₀) (hk : cs.kind = .function) (hd : dp + 8 < recursionLimit) (hu : un + 200 < cLine) (hw : 0 ≤ wd ∧ wd ≤ 9)
    (hret : ∀ v dv ln xa dxa na ha ua za k1 k2 k3 k4 k5 k6 t5 h' tk', Fr h₀ L h' m → News h₀ L h' ((xa, accObj dxa #[] na) :: (dxa, iniOf ha ua (.int 0 za)) :: (ln, listOf #[] 0) :: (v, instObj 102 dv) :: (dv, fmtObj w.params k1 k2 k3 k4 k5 k6 wd t1 t2 t5 t3 ln xa) :: news) →
      (∀ p ∈ news, p.1 < dv) → dv < v → v < ln → ln < dxa → dxa < xa → Q (.ref v) { s with heap := h', toks := tk' }),
    wpAny (model PySem.Challenge.rw_wu0081_01.row.prog w) (ktrTop dp un gd cn cs L a ccd cl outer) (call (.ref 102) [.int 0 t0, .int wd t1, .str " " t2, .str " " t3]) Q E s := by
  k_fill
  intro dp un gd cn cs a ccd cl outer A₀ base h₀ L m news s Q E wd t0 t1 t2 t3 B F X N T hk hd hu hw hret
  k_dflt (refine' call_cls ?k1 ?k2 ?k3 ?k4 ?k5 ?k6 ?_; (case k1 => k_asm); (case k2 => k_asm); (case k3 => k_asm); (case k4 => k_is); (case k5 => k_is); (case k6 => k_is); k_whole; intro x' d' h' F' N' l1 l2; (try k_lt l1); (try k_lt2 l2))
  k_dflt (refine' code_def ?k1 ?k2 ?k3 ?k4 ?k5 ?kA ?kF ?kK ?k6 ?k7 ?k8 ?k9 ?kB ?_ ?c2 ?c3 ?c4 ?c5; (case kA => exact rfl); (case kF => exact rfl); (case kK => assumption); (case k1 => k_asm); (case k2 => k_asm); (case k3 => k_asm); (case k4 => k_asm); (case k5 => k_asm); (case k6 => k_is); (case k7 => k_is); (case k8 => ktr_room); (case k9 => first | exact BindsTo.of_eq rfl | exact binds_K (by k_in) rfl (by k_is) rfl rfl rfl); (case c5 => decide); (case kB => exact locs rfl); (case c2 => exact rfl); (case c3 => exact rfl); (case c4 => exact rfl); k_whole; intro g' L' h' FG' F' N' B' X' T'; (try dsimp only); (try k_fold))
  k_steps
  all_goals (try unfold Stop)
  refine' mkac_ok _ _ _ _ _ _ _ _ _ _ _ _ _ _ _ _ _ _ _ (.inr ⟨t0, rfl⟩) ?kB ?kF ?kX ?kN ?kT ?kk ?kd ?ku ?kr
  (case kB => k_asm); (case kF => k_asm); (case kX => assumption); (case kN => k_asm); (case kT => k_asm); (case kk => exact rfl); (case kd => ktr_room); (case ku => first | ktr_units | (have hcL9 := cLine_is; (try simp only [units_under_make, units_in1, units_deeper, Around.mark_units, units_caller]); (try dsimp only [ktrTop]); omega))
  case kr =>
  intro xa dxa na ha ua za h9 tk9 F9 N9 la9 lb9
  k_lt la9
  replace lb9 : @LT.lt Nat _ dxa xa := lb9
  k_steps
  all_goals (try unfold Stop)
  rename_i kF kN kT kX
  refine hret _ _ _ _ _ _ _ _ _ _ _ _ _ _ _ _ _ _ kF kN ?_ ?_ ?_ ?_ lb9
  · exact l1
  · exact l2
  · show @LT.lt Nat _ _ _; omega
  · show @LT.lt Nat _ _ _; omega
end Mine
end

section
open PySem PySem.W PyProof.Rows PySem.Calls
set_option Elab.async false
set_option linter.unusedVariables false
set_option maxRecDepth 100000
set_option maxHeartbeats 400000
set_option pp.maxSteps 1200
set_option pp.deepTerms false
namespace Mine
def StepK (h₀ : Heap) (L : Addr) (I : Addr) (o : Obj) (J : (Str → Option Value) → List (Addr × Obj) → Array GenState → Prop) (s s₃ : Shared) : Prop :=
  ∃ h m news g tk, s₃ = { s with heap := h, gens := g, toks := tk } ∧ Fr h₀ L h m ∧ News h₀ L h ((I, o) :: news) ∧ (∀ p ∈ news, p.1 ≠ I) ∧ J m news g
theorem stepK {h₀ : Heap} {L I : Addr} {o : Obj} {J : (Str → Option Value) → List (Addr × Obj) → Array GenState → Prop} {s : Shared} {h : Heap} {m : Str → Option Value} {news : List (Addr × Obj)} {g : Array GenState} {tk : Nat}
    (F : Fr h₀ L h m) (N : News h₀ L h ((I, o) :: news)) (hn : ∀ p ∈ news, p.1 ≠ I) (j : J m news g) : StepK h₀ L I o J s { s with heap := h, gens := g, toks := tk } := ⟨h, m, news, g, tk, rfl, F, N, hn, j⟩
section
variable {prog : Program} {w : World} {A : Around} {s : Shared} {env : Env} {R : Result → Shared → Prop} {h₀ : Heap} {L : Addr}
theorem codeAny_abs {M : Model} {c : Code} (h : ∀ R' : Result → Shared → Prop, (∀ r s, R r s → R' r s) → codeAny M A c R' s) : codeAny M A c R s := h R fun _ _ z => z
theorem for_K {I : Addr} {n : Nat} {P : Nat → Value → Prop} {St : Nat → Heap → Prop} (W : Walks prog w A I [I] [I] n P St) (hSt : ∀ i h, St i h → ∃ o, h.get? I = some o) (J : Nat → (Str → Option Value) → List (Addr × Obj) → Array GenState → Prop)
    {m₀ : Str → Option Value} {news₀ : List (Addr × Obj)} {target : Expr} {body orelse : List Stmt}
    (hLI : L ≠ I) (h0I : h₀.get? I = none) (st0 : St 0 s.heap) (F₀ : Fr h₀ L s.heap m₀) (N₀ : News h₀ L s.heap news₀) (hn₀ : ∀ p ∈ news₀, p.1 ≠ I) (j0 : J 0 m₀ news₀ s.gens)
    (turn : ∀ i v m₁ news₁ h g tk o, i < n → P i v → J i m₁ news₁ g → Fr h₀ L h m₁ → News h₀ L h ((I, o) :: news₁) → (∀ p ∈ news₁, p.1 ≠ I) → ∀ S : Shared → Prop, (∀ s₃, StepK h₀ L I o (J (i + 1)) s s₃ → S s₃) → ∀ E' : Value → Shared → Prop,
      wpAny (model prog w) A (assign target env v) (fun _ s₂ => wpAny (model prog w) A (execs body env) (fun f s₃ => match f with
        | .next | .cont => S s₃
        | .brk => R (.ok .next) s₃
        | .ret v => R (.ok (.ret v)) s₃) E' s₂) E' { s with heap := h, gens := g, toks := tk })
    (done : ∀ m₁ news₁ h g tk, J n m₁ news₁ g → Fr h₀ L h m₁ → News h₀ L h news₁ → wpAny (model prog w) A (execs orelse env) (fun f s₃ => R (.ok f) s₃) (notedBy (model prog w) A env fun e s' => R (.error e) s') { s with heap := h, gens := g, toks := tk })
    (ht : ∀ v, letOwnedTupleGo target (.ref I) v = pure () := by intro _; rfl) : codeAny (model prog w) A (.forLoop target (.ref I) body orelse env) R s := by
  refine codeAny_forLoop (I := fun k s₁ => ∃ i h m news g tk, k = n - i ∧ i ≤ n ∧ s₁ = { s with heap := h, gens := g, toks := tk } ∧ St i h ∧ Fr h₀ L h m ∧ News h₀ L h news ∧ (∀ p ∈ news, p.1 ≠ I) ∧ J i m news g) ?_ (n - 0) ⟨0, s.heap, m₀, news₀, s.gens, s.toks, rfl, Nat.zero_le _, rfl, st0, F₀, N₀, hn₀, j0⟩ ht
  rintro k s₁ ⟨i, h, m₁, news₁, g, tk, rfl, hi, rfl, st, F, N, hn, hJ⟩
  rcases Nat.lt_or_eq_of_le hi with hlt | rfl
  · refine W.item i _ _ _ hlt st fun v h' tk' hP st' hk => ?_
    have hk' : ∀ b o, b ≠ I → h.get? b = some o → h'.get? b = some o := fun b o hb e => hk b o (fun q => hb (List.mem_singleton.mp q)) e
    obtain ⟨o, ho⟩ := hSt _ _ st'
    have F' := fr_mod F hk' hLI h0I
    have N' : News h₀ L h' ((I, o) :: news₁) := fun p hp => by
      rcases List.mem_cons.mp hp with rfl | hp
      · exact ⟨ho, fun e => hLI e.symm, h0I⟩
      · exact ⟨hk' _ _ (hn p hp) (N p hp).1, (N p hp).2⟩
    refine wpAny_mono (turn i v m₁ news₁ h' g tk' o hlt hP hJ F' N' hn _ (fun _ z => z) _) (fun _ s₂ h₂ => wpAny_mono h₂ (fun f s₃ h₃ => ?_) fun _ _ e => e) fun _ _ e => e
    have fin : StepK h₀ L I o (J (i + 1)) s s₃ → ∃ k', k' < n - i ∧ ∃ i h m news g tk, k' = n - i ∧ i ≤ n ∧ s₃ = { s with heap := h, gens := g, toks := tk } ∧ St i h ∧ Fr h₀ L h m ∧ News h₀ L h news ∧ (∀ p ∈ news, p.1 ≠ I) ∧ J i m news g := by
      rintro ⟨h3, m3, news3, g3, tk3, rfl, F3, N3, hn3, J3⟩
      refine ⟨n - (i + 1), by omega, i + 1, h3, m3, news3, g3, tk3, rfl, hlt, rfl, W.frame _ _ _ st' fun b hb o' e => ?_, F3, fun p hp => N3 p (.tail _ hp), hn3, J3⟩
      rw [List.mem_singleton.mp hb] at e ⊢
      rw [ho] at e; cases e
      exact (N3 _ (.head _)).1
    cases f with
    | next => exact fin h₃
    | cont => exact fin h₃
    | brk => exact h₃
    | ret v => exact h₃
  · refine W.done _ _ _ st fun h' tk' hk => ?_
    have hk' : ∀ b o, b ≠ I → h.get? b = some o → h'.get? b = some o := fun b o hb e => hk b o (fun q => hb (List.mem_singleton.mp q)) e
    exact done m₁ news₁ h' g tk' hJ (fr_mod F hk' hLI h0I) fun p hp => ⟨hk' _ _ (hn p hp) (N p hp).1, (N p hp).2⟩
end
end Mine
end

section
open PySem PySem.W PyProof.Rows PySem.Calls
set_option Elab.async false
set_option linter.unusedVariables false
set_option linter.unusedSimpArgs false
set_option maxRecDepth 100000
set_option maxHeartbeats 2000000
set_option pp.maxSteps 1200
set_option pp.deepTerms false
namespace Mine
section
variable {prog : Program} {w : World} {A : Around} {E : Value → Shared → Prop} {s : Shared} {h₀ : Heap} {L : Addr} {m : Str → Option Value} {news : List (Addr × Obj)}
theorem new_K {o : Obj} (F : Fr h₀ L s.heap m) (N : News h₀ L s.heap news) (ho : o.isFreed = false) :
    Fr h₀ L (s.heap.push o) m ∧ News h₀ L (s.heap.push o) news ∧ (∀ p ∈ news, p.1 ≠ s.heap.objs.size) ∧ L ≠ s.heap.objs.size ∧ h₀.get? s.heap.objs.size = none ∧ (s.heap.push o).get? s.heap.objs.size = some o := by
  obtain ⟨F1, N1, l1⟩ := ks_newsPush (s := s) (h' := s.heap.push o) F N rfl (Heap.get?_push_size _ ho) (fun b o e => Heap.get?_push_of_some _ e)
  exact ⟨F1, fun p hp => N1 p (.tail _ hp), fun p hp => Nat.ne_of_lt (l1 p hp), (N1 _ (.head _)).2.1.symm, (N1 _ (.head _)).2.2, (N1 _ (.head _)).1⟩
theorem pyIter_ascii_K {x : Str} {t : Tok} {Q : Value → Shared → Prop} (ha : x.cps.all (· < 128) = true) (F : Fr h₀ L s.heap m) (N : News h₀ L s.heap news)
    (hq : ∀ I h, Fr h₀ L h m → News h₀ L h news → (∀ p ∈ news, p.1 ≠ I) → L ≠ I → h₀.get? I = none → h.IsStrIter I "str_ascii_iterator" x t 0 → Q (.ref I) { s with heap := h }) :
    wpAny (model prog w) A (pyIter (.str x t)) Q E s := by
  refine wpAny_pyIter_ascii ha ?_
  refine absG fun G99 k99 => ?_
  obtain ⟨F1, N1, a1, a2, a3, a4⟩ := new_K (o := { cls := .type "str_ascii_iterator", data := .fields #[.str x t, .int 0 0] }) F N rfl
  refine k99.go ?_
  clear k99 G99
  exact hq _ _ F1 N1 a1 a2 a3 ⟨_, a4, rfl, rfl⟩
theorem pyIter_range_K {r : Addr} {a b c : Int} {t u v : Tok} {Q : Value → Shared → Prop} (hsmall : Builtin.Range.small a b c = true) (F : Fr h₀ L s.heap m) (N : News h₀ L s.heap news) (hr : IsRange s.heap r a b c t u v)
    (hq : ∀ I h, Fr h₀ L h m → News h₀ L h news → (∀ p ∈ news, p.1 ≠ I) → L ≠ I → h₀.get? I = none → IsRangeIter h I a (Builtin.Range.rangeSize a b c) c → Q (.ref I) { s with heap := h }) :
    wpAny (model prog w) A (pyIter (.ref r)) Q E s := by
  refine wpAny_pyIter_range hr hsmall ?_
  refine absG fun G99 k99 => ?_
  obtain ⟨F1, N1, a1, a2, a3, a4⟩ := new_K (o := { cls := .type "range_iterator", data := .fields #[rawInt a, rawInt (Builtin.Range.rangeSize a b c), rawInt c] }) F N rfl
  refine k99.go ?_
  clear k99 G99
  exact hq _ _ F1 N1 a1 a2 a3 a4
end
end Mine
end

section
open PySem PySem.W PyProof.Rows PySem.Calls
set_option Elab.async false
set_option linter.unusedVariables false
set_option linter.unusedSimpArgs false
set_option maxRecDepth 100000
set_option maxHeartbeats 2000000
set_option pp.maxSteps 1200
set_option pp.deepTerms false
namespace Mine
section
variable {prog : Program} {w : World} {A : Around} {h₀ : Heap} {L : Addr} {m : Str → Option Value} {env : Env} {elt : Expr} {x : Str} {scope : Scope} {cl : List (Str × Addr)} {s : Shared} {S : List (Addr × Obj) → Prop} {P : Nat → Value → Prop} {Fin : List Value → List (Addr × Obj) → Prop} {news : List (Addr × Obj)}
theorem comp_el {n : Nat} (El : Nat → Value → Prop)
    (turn : ∀ i v I oI C oC D m₂ ys h tk (E' : Value → Shared → Prop), i < n → P i v → LCg.NsObj oC m₂ → m₂ x = some v → Fr h₀ L h m → News h₀ L h ((I, oI) :: (C, oC) :: (D, LCg.lst ys) :: news) → LCg.Off3 I C D news → ((@Ne Nat I C) ∧ (@Ne Nat I D) ∧ (@Ne Nat C D)) →
      wpAny (model prog w) A (eval elt (compEnvC scope cl C env)) (LCg.CompEnd h₀ L m { s with heap := h, toks := tk } I oI C oC D (LCg.lst ys) S (fun y news' => news' = news ∧ El i y)) E' { s with heap := h, toks := tk })
    (fin : ∀ ys : List Value, ys.length = n → (∀ i y, ys[i]? = some y → El i y) → Fin ys news) : LCg.CompRest prog w A h₀ L m env elt x scope cl s S P Fin n 0 [] news := by
  have key : ∀ (j i : Nat) (ys : List Value), i + j = n → ys.length = i → (∀ i y, ys[i]? = some y → El i y) → LCg.CompRest prog w A h₀ L m env elt x scope cl s S P Fin j i ys news := by
    intro j
    induction j with
    | zero => intro i ys hi hl hy; exact LCg.CompRest.zero (fin ys (by omega) hy)
    | succ j ih =>
      intro i ys hi hl hy
      refine LCg.CompRest.succ ?_
      intro v I oI C oC D m₂ h tk E' hv hC hx F N off ne
      refine wpAny_mono (turn i v I oI C oC D m₂ ys h tk E' (by omega) hv hC hx F N off ne) (fun y s₂ hq => ?_) fun _ _ e => e
      refine absG fun G99 k99 => ?_
      obtain ⟨h', tk', nw, e, F', N', off', hS, rfl, hE⟩ := hq
      refine k99.go ?_
      clear k99 G99
      refine ⟨h', tk', _, e, F', N', off', hS, ih (i + 1) _ (by omega) (by simp [hl]) fun k z hz => ?_⟩
      rcases Nat.lt_trichotomy k ys.length with h1 | h1 | h1
      · rw [List.getElem?_append_left h1] at hz; exact hy k z hz
      · refine absG fun G99 k99 => ?_
        subst h1
        refine k99.go ?_
        clear k99 G99
        rw [List.getElem?_append_right (Nat.le_refl _)] at hz
        simp at hz
        rw [hl, ← hz]; exact hE
      · rw [List.getElem?_append_right (by omega)] at hz
        rw [List.getElem?_eq_none (by simp; omega)] at hz
        cases hz
  exact key n 0 [] (by omega) rfl (fun i y h => by simp at h)
end
end Mine
end

local macro_rules | `(tactic| k_all) => `(tactic| assumption)
local macro_rules | `(tactic| walk_at $s) => if s.getString ∈ ["exec For Tuple Call cons nil", "own s3"] then `(tactic| refine wpAny_For (hs := by intro _; with_unfolding_all rfl) ?_) else if s.getString == "exec For" then `(tactic| refine wpAny_For ?_) else if s.getString == "own item" then `(tactic| (k_here; (with_reducible show wpAny _ _ (subscriptTail _ _ (Value.ref _) (Value.int _ _)) _ _ _); k_dflt (refine' item_list ?l ?h0 ?hf ?hx ?_ ?s ?t; (case l => first | exact News.isList (by k_asm) (by k_mem) | exact News.isList (by k_asm) (by repeat (first | with_reducible_and_instances assumption | refine List.Mem.tail _ ?_))); (case h0 => omega); (case hf => omega); (case hx => first | assumption | rfl); (case s => with_unfolding_all rfl); (case t => kmk_pure)))) else if s.getString == "own method" then `(tactic| ((first | (with_reducible show wpAny _ _ (getMethod (Value.ref _) (PySem.Str.ofString "reset") _) _ _ _) | (with_reducible show wpAny _ _ (getMethod (Value.ref _) (PySem.Str.ofString "push") _) _ _ _) | (with_reducible show wpAny _ _ (getMethod (Value.ref _) (PySem.Str.ofString "pop_from") _) _ _ _) | (with_reducible show wpAny _ _ (getMethod (Value.ref _) (PySem.Str.ofString "pop") _) _ _ _) | (with_reducible show wpAny _ _ (getMethod (Value.ref _) (PySem.Str.ofString "part_count") _) _ _ _)); refine Mine.stop_here ?_)) else if s.getString == "own s0" then `(tactic| ((with_reducible show wpAny _ _ (exec (Stmt.While _ _ _ _) _) _ _ _); refine wpAny_While ?_)) else if s.getString == "own s1" then `(tactic| (k_here; (try k_fmods); (try kcf_lens); k_dflt ((refine LCt.CompSrcT.range (by rfl) (by k_asm) (by k_asm) (by assumption) (by exact small_one (by kcf_bnd) (by kcf_bnd) (by kcf_bnd) (by kcf_bnd)) (by first | exact rangeSize_nat _ _ | rfl) (by rw [PySem.sizeLine_eq]; first | omega | ((simp only [List.size_toArray]); omega)) ?_); intro g'))) else if s.getString == "own s2" then `(tactic| (k_here; k_dflt (refine LCg.ListComp_U (F₀ := by k_asm) (by with_unfolding_all rfl) (by decide) (by rfl) (by decide) (by rfl) ?_))) else Lean.Macro.throwUnsupported
theorem Mine.rs6 {M : Model} {A : Around} {Q : Nat → Shared → Prop} {E : Value → Shared → Prop} {s : Shared} (h : wpAny M A (pure 1) Q E s) : wpAny M A (pure 1) Q E s := by first | (walk1; fail) | exact h
section
open PySem PySem.W PyProof.Rows PySem.Calls
set_option Elab.async false
set_option linter.unusedVariables false
set_option linter.unusedSimpArgs false
set_option maxRecDepth 100000
set_option maxHeartbeats 2000000
set_option pp.maxSteps 1200
set_option pp.deepTerms false
namespace Mine
set_option maxHeartbeats 12000000
theorem lt_of_all' {d : Addr} {l : List (Addr × Obj)} (h : AllLt d l) : ∀ p ∈ l, @LT.lt Nat _ p.1 d := by
  induction l with
  | nil => intro p hp; cases hp
  | cons q r ih =>
    intro p hp
    revert p; exact (allC (h.1) (fun p hp => ih h.2 p hp))
theorem signs_of : ∀ (ys : List Value), (∀ (i : Nat) (y : Value), ys[i]? = some y → ∃ t, y = Value.str "a" t ∨ y = Value.str "\"" t) → ∃ ss : List Str, StrsAre ys ss ∧ ∀ x ∈ ss, x = "a" ∨ x = "\""
  | [], _ => ⟨[], .nil, fun _ h => nomatch h⟩
  | y :: r, h => by
    obtain ⟨ss, h1, h2⟩ := signs_of r fun i z hz => h (i + 1) z (by simpa using hz)
    obtain ⟨t, ht⟩ := h 0 y (by simp)
    rcases ht with rfl | rfl
    · exact ⟨"a" :: ss, .cons _ _ h1, fun x hx => by
        revert x; exact (allC (.inl rfl) (fun x hx => h2 x hx))⟩
    · exact ⟨"\"" :: ss, .cons _ _ h1, fun x hx => by
        revert x; exact (allC (.inr rfl) (fun x hx => h2 x hx))⟩
def names14 : List Str := ["a", "\"", "aa", "a\"", "\"a", "\"\"", "aaa", "aa\"", "a\"a", "a\"\"", "\"aa", "\"a\"", "\"\"a", "\"\"\""]
theorem names_ok : ∀ nm ∈ names14, nm.length ≤ 3 ∧ (Txt.replace nm (PySem.Str.ofString "\"") (PySem.Str.ofString "\"\"")).length ≤ 6 := by decide +kernel
theorem sum_ones : ∀ (ss : List Str), (∀ x ∈ ss, x.length = 1) → (ss.map (·.length)).sum = ss.length
  | [], _ => rfl
  | x :: r, h => by
    rw [List.map_cons, List.sum_cons, h x (.head _), sum_ones r fun y hy => h y (.tail _ hy), List.length_cons]; omega
theorem name_in (ss : List Str) (h : ∀ x ∈ ss, x = "a" ∨ x = "\"") (h1 : 1 ≤ ss.length) (h3 : ss.length ≤ 3) : Str.join ⟨#[]⟩ ss ∈ names14 := by
  match ss, h1, h3 with
  | [x], _, _ =>
    rcases h x (by simp) with rfl | rfl <;> decide +kernel
  | [x, y], _, _ =>
    rcases h x (by simp) with rfl | rfl <;> rcases h y (by simp) with rfl | rfl <;> decide +kernel
  | [x, y, z], _, _ =>
    rcases h x (by simp) with rfl | rfl <;> rcases h y (by simp) with rfl | rfl <;> rcases h z (by simp) with rfl | rfl <;> decide +kernel
  | _ :: _ :: _ :: _ :: _, _, h3 => simp at h3
def ReplyOk (nm r0 due : Str) : Prop := ∃ tail ∈ ([PySem.Str.ofString "", PySem.Str.ofString "\" x"] : List Str),
  (r0 = PySem.Str.ofString "250 " ++ (PySem.Str.ofString "\"" ++ Txt.replace nm (PySem.Str.ofString "\"") (PySem.Str.ofString "\"\"") ++ tail) ∧ due = PySem.Str.ofString "<" ++ nm ++ PySem.Str.ofString " call() failed>") ∨
  (r0 = PySem.Str.ofString "257-" ++ (PySem.Str.ofString "\"" ++ Txt.replace nm (PySem.Str.ofString "\"") (PySem.Str.ofString "\"\"") ++ tail) ∧ due = PySem.Str.ofString "") ∨
  (r0 = PySem.Str.ofString "257 " ++ (PySem.Str.ofString "\"" ++ Txt.replace nm (PySem.Str.ofString "\"") (PySem.Str.ofString "\"\"") ++ tail) ∧ due = nm)
local macro_rules | `(tactic| walk_at $s) => if s.getString ∈ ["CompSrc", "call builtin:str.join"] then `(tactic| refine stop_here ?_) else if s.getString == "eval IfExp" then `(tactic| ((with_reducible show wpAny _ _ (eval (Expr.IfExp _ (Expr.Constant (Const.str (PySem.Str.ofString "")) _ _) _ _) _) _ _ _); (with_reducible rename HidP True => hMk9); clear hMk9; refine stop_here ?_)) else Lean.Macro.throwUnsupported
def tailOk (tail : Str) : Prop := tail ∈ ([PySem.Str.ofString "", PySem.Str.ofString "\" x"] : List Str)
theorem cut_str {M : Model} {A : Around} {E : Value → Shared → Prop} {c : Sem Value} {s : Shared} {h₀ h : Heap} {L : Addr} {m : Str → Option Value} {Q : Value → Shared → Prop} (F : Fr h₀ L h m) (P : Str → Prop) (h1 : wpAny M A c (fun v s' => HidP (∃ x t tk, v = Value.str x t ∧ P x ∧ s' = { s with heap := h, toks := tk })) E s)
    (h2 : ∀ x t tk, P x → Q (Value.str x t) { s with heap := h, toks := tk }) : wpAny M A c Q E s :=
  wpAny_mono h1 (fun _ _ hv => by obtain ⟨x, t, tk, rfl, hx, rfl⟩ := hv.out; exact h2 x t tk hx) fun _ _ e => e
theorem tail_len {tail : Str} (h : tailOk tail) : tail.length ≤ 3 := by
  rcases List.mem_cons.mp h with rfl | h
  · decide +kernel
  · rw [List.mem_singleton.mp h]; decide +kernel
theorem reply_ok {w : World} {mean : ExcName → Option Value} {mg mb : Str → Option Value} : ∀ (dp un : Nat) (gd : Option (List Code)) (cn : Str) (cs : Scope) (a : Addr) (ccd : Value) (cl : List (Str × Addr)) (outer : List Env) (A₀ : Around) (base h₀ : Heap) (L : Addr) (m : Str → Option Value) (news : List (Addr × Obj)) (s : Shared) (Q E : Value → Shared → Prop) (c : Int) (tc : Tok),
    ∀ (hB : Below A₀ base outer h₀) (hF : Fr h₀ L s.heap m) (hX : (Mine.top.heap_1 w.params).In h₀) (hN : News h₀ L s.heap news) (hT : Top topProg (looseW Mine.top.view_1 [Str.ofString "_safe_string", Str.ofString "_Accumulator"] ++ List.map (fun x => x.name) (recsOf Mine.top.view_1) ++ List.map (fun x => x.fst) (litsOf Mine.top.view_1) ++ List.map (fun x => x.name) (clssOf Mine.top.view_1 (looseW Mine.top.view_1 [Str.ofString "_safe_string", Str.ofString "_Accumulator"]))) mean mg mb h₀) (hk : cs.kind = .function) (hd : dp + 3 < recursionLimit) (hu : un + 60 < cLine) (hc : 0 ≤ c ∧ c < 2000000)
    (hret : ∀ tp nm r0 due ta tb td h' tk', nm ∈ names14 → ReplyOk nm r0 due → Fr h₀ L h' m → News h₀ L h' ((tp, tupObj #[.str r0 ta, .str nm tb, .str due td]) :: news) → (∀ p ∈ news, p.1 < tp) → Q (.ref tp) { s with heap := h', toks := tk' }),
    wpAny (model PySem.Challenge.rw_wu0081_01.row.prog w) (ktrTop dp un gd cn cs L a ccd cl outer) (call (.ref 290) [.int c tc]) Q E s := by
  k_fill
  intro dp un gd cn cs a ccd cl outer A₀ base h₀ L m news s Q E c tc B F X N T hk hd hu hc hret
  refine wpAny_call ?_
  k_dflt (refine' code_defC ?k1 ?k2 ?k3 ?k4 ?k5 ?kA ?kF ?kK ?k6 ?k7 ?k8 ?k9 ?kB ?kD ?_ ?c2 ?c3 ?c4; (case kA => exact rfl); (case kF => exact rfl); (case kK => assumption); (case k1 => k_asm); (case k2 => k_asm); (case k3 => k_asm); (case k4 => k_asm); (case k5 => k_asm); (case k6 => k_is); (case k7 => k_is); (case k8 => ktr_room); (case k9 => first | exact BindsTo.of_eq rfl | exact binds_K (by k_in) rfl (by k_is) rfl rfl rfl); (case kB => exact rfl); (case kD => decide +kernel); (case c2 => exact rfl); (case c3 => exact rfl); (case c4 => exact rfl); k_whole; intro g' L' h' tk' cells' FG' F' N' Y' B' X' T' l1; (try k_lt l1); k_cells Y'; (try simp only [List.cons_append, List.nil_append] at N'); (try dsimp only); (try k_fold))
  have l2 : ∀ p ∈ news, p.1 ≠ L' + 1 := fun p hp => Nat.ne_of_lt (Nat.lt_succ_of_lt (l1 p hp))
  k_steps
  unfold Stop
  (k_here; (try k_fmods); (try kcf_lens); k_dflt ((refine LCg.CompSrc.range (by rfl) (by k_asm) (by k_asm) (by assumption) (by exact small_one (by kcf_bnd) (by kcf_bnd) (by kcf_bnd) (by kcf_bnd)) (by first | exact rangeSize_nat _ _ | rfl) (by rw [PySem.sizeLine_eq]; first | omega | ((simp only [List.size_toArray]); omega)) ?_); intro gq))
  refine comp_el (fun i y => ∃ t, y = Value.str "a" t ∨ y = Value.str "\"" t) (fun i v I oI C oC D m2 ys h5 tk5 E5 hi hv hC hx F5 N5 off ne => ?_) (fun ys hys hel => ?_)
  · refine absG fun G99 k99 => ?_
    obtain ⟨t5, rfl⟩ := hv
    refine k99.go ?_
    clear k99 G99
    k_steps
    all_goals exact LCg.CompEnd.intro F5 N5 _ (fun p hp => hp) off trivial ⟨rfl, _, by first | exact .inl rfl | exact .inr rfl⟩
  · refine absG fun G99 k99 => ?_
    obtain ⟨ss, hss, hal⟩ := signs_of ys hel
    refine k99.go ?_
    clear k99 G99
    k_steps
    unfold Stop
    (with_reducible rename Fr g' _ _ _ => F6)
    (with_reducible rename News g' _ _ _ => N6)
    have hsl := hss.length
    have hyn : ys.length ≤ 3 ∧ 1 ≤ ys.length := by rw [hys]; omega
    rw [hsl] at hyn
    refine join_list ⟨_, (N6 _ (.head _)).1, rfl, _, rfl⟩ hss ?_ (fun t' k => ?_)
    · have hl1 : ∀ x ∈ ss, x.length = 1 := fun x hx => by rcases hal x hx with rfl | rfl <;> rfl
      have := sum_ones ss hl1
      rw [show (PySem.Str.ofString "").length = 0 from rfl, this, Nat.mul_zero, Nat.add_zero]
      exact Nat.le_trans hyn.1 (by decide)
    rw [txt_join]
    have hnm := name_in ss hal hyn.2 hyn.1
    generalize Str.join ⟨#[]⟩ ss = nm at hnm ⊢
    have hb14 := names_ok nm hnm
    have hMk : HidP True := ⟨trivial⟩
    k_steps
    unfold Stop
    (with_reducible rename Fr g' _ _ _ => F7)
    refine cut_str F7 tailOk ?_ (fun tail t7 tk7 htl => ?_)
    · k_steps
      all_goals first | exact ⟨_, _, _, rfl, .head _, rfl⟩ | exact ⟨_, _, _, rfl, .tail _ (.head _), rfl⟩
    have htn := tail_len htl
    k_steps
    all_goals (with_reducible rename Fr h₀ _ _ _ => kF)
    all_goals (with_reducible rename News h₀ _ _ _ => kN)
    all_goals (with_reducible rename _ ∧ _ => lz)
    · exact hret _ nm _ _ _ _ _ _ _ hnm ⟨tail, htl, .inl ⟨by with_reducible rfl, by with_reducible rfl⟩⟩ kF (newsPick [0] 3 kN) (lt_of_all' lz.2.2)
    · exact hret _ nm _ _ _ _ _ _ _ hnm ⟨tail, htl, .inr (.inl ⟨by with_reducible rfl, by with_reducible rfl⟩)⟩ kF (newsPick [0] 3 kN) (lt_of_all' lz.2.2)
    · exact hret _ nm _ _ _ _ _ _ _ hnm ⟨tail, htl, .inr (.inr ⟨by with_reducible rfl, by with_reducible rfl⟩)⟩ kF (newsPick [0] 3 kN) (lt_of_all' lz.2.2)
end Mine
end

section
open PySem PySem.W PyProof.Rows PySem.Calls
set_option Elab.async false
set_option linter.unusedVariables false
set_option linter.unusedSimpArgs false
set_option maxRecDepth 100000
set_option maxHeartbeats 2000000
set_option pp.maxSteps 1200
set_option pp.deepTerms false
namespace Mine
def natsOf (n : Nat) (keep : Nat → Bool) : List Nat := (List.range n).filter keep
theorem natsOf_succ (n : Nat) (keep : Nat → Bool) : natsOf (n + 1) keep = natsOf n keep ++ (if keep n = true then [n] else []) := by
  unfold natsOf
  rw [List.range_succ, List.filter_append]
  by_cases h : keep n = true
  · rw [if_pos h, List.filter_cons_of_pos h]; rfl
  · rw [if_neg h, List.filter_cons_of_neg h]; rfl
section
variable {prog : Program} {w : World} {A : Around} {h₀ : Heap} {L : Addr} {m : Str → Option Value} {env : Env} {ct elt : Expr} {x : Str} {scope : Scope} {cl : List (Str × Addr)} {s : Shared} {S : List (Addr × Obj) → Prop} {P : Nat → Value → Prop} {Fin : List Value → List (Addr × Obj) → Prop} {news : List (Addr × Obj)}
theorem comp_ints {n : Nat} (keep : Nat → Bool) (f : Nat → Int)
    (turn : ∀ i v I oI C oC D m₂ ys h tk (E' : Value → Shared → Prop), i < n → P i v → LCg.NsObj oC m₂ → m₂ x = some v → Fr h₀ L h m → News h₀ L h ((I, oI) :: (C, oC) :: (D, LCg.lst ys) :: news) → LCg.Off3 I C D news → ((@Ne Nat I C) ∧ (@Ne Nat I D) ∧ (@Ne Nat C D)) →
      wpAny (model prog w) A (isTrue ct (compEnvC scope cl C env) (eval ct (compEnvC scope cl C env))) (fun b s' => if b = true then
          wpAny (model prog w) A (eval elt (compEnvC scope cl C env)) (LCg.CompEnd h₀ L m { s with heap := h, toks := tk } I oI C oC D (LCg.lst ys) S (fun y news' => news' = news ∧ keep i = true ∧ ∃ t, y = .int (f i) t)) E' s'
        else LCg.CompEnd h₀ L m { s with heap := h, toks := tk } I oI C oC D (LCg.lst ys) S (fun _ news' => news' = news ∧ keep i = false) Value.none s') E' { s with heap := h, toks := tk })
    (fin : ∀ ys : List Value, IntsAre ys ((natsOf n keep).map f) → Fin ys news) : LCt.CompRestT prog w A h₀ L m env ct elt x scope cl s S P Fin n 0 [] news := by
  have key : ∀ (j i : Nat) (ys : List Value), i + j = n → IntsAre ys ((natsOf i keep).map f) → LCt.CompRestT prog w A h₀ L m env ct elt x scope cl s S P Fin j i ys news := by
    intro j
    induction j with
    | zero => intro i ys hi hy; exact LCt.CompRestT.zero (fin ys (by rw [← hi]; exact hy))
    | succ j ih =>
      intro i ys hi hy
      refine LCt.CompRestT.succ ?_
      intro v I oI C oC D m₂ h tk E' hv hC hx F N off ne
      refine wpAny_mono (turn i v I oI C oC D m₂ ys h tk E' (by omega) hv hC hx F N off ne) (fun b s₂ hq => ?_) fun _ _ e => e
      cases b with
      | true =>
        simp only [if_true] at hq ⊢
        refine wpAny_mono hq (fun y s₃ hr => ?_) fun _ _ e => e
        refine absG fun G99 k99 => ?_
        obtain ⟨h', tk', nw, e, F', N', off', hS, rfl, hk, t, rfl⟩ := hr
        refine k99.go ?_
        clear k99 G99
        refine ⟨h', tk', _, e, F', N', off', hS, ih (i + 1) _ (by omega) ?_⟩
        rw [natsOf_succ, if_pos hk, List.map_append]
        exact IntsAre.append hy (.cons _ t .nil)
      | false =>
        simp only [Bool.false_eq_true, if_false] at hq ⊢
        refine absG fun G99 k99 => ?_
        obtain ⟨h', tk', nw, e, F', N', off', hS, rfl, hk⟩ := hq
        refine k99.go ?_
        clear k99 G99
        refine ⟨h', tk', _, e, F', N', off', hS, ih (i + 1) _ (by omega) ?_⟩
        rw [natsOf_succ, if_neg (by rw [hk]; decide), List.append_nil]
        exact hy
  exact key n 0 [] (by omega) .nil
end
end Mine
end

section
open PySem PySem.W PyProof.Rows PySem.Calls
set_option Elab.async false
set_option linter.unusedVariables false
set_option linter.unusedSimpArgs false
set_option maxRecDepth 100000
set_option maxHeartbeats 2000000
set_option pp.maxSteps 1200
set_option pp.deepTerms false
namespace Mine
theorem strs_take {vs : List Value} {ss : List Str} (h : StrsAre vs ss) : ∀ n, StrsAre (vs.take n) (ss.take n) := by
  induction h with
  | nil => intro n; simp only [List.take_nil]; exact .nil
  | cons m t _ ih =>
    intro n
    cases n with
    | zero => exact .nil
    | succ n => exact .cons m t (ih n)
theorem strs_drop {vs : List Value} {ss : List Str} (h : StrsAre vs ss) : ∀ n, StrsAre (vs.drop n) (ss.drop n) := by
  induction h with
  | nil => intro n; simp only [List.drop_nil]; exact .nil
  | cons m t h ih =>
    intro n
    cases n with
    | zero => exact .cons m t h
    | succ n => exact ih n
theorem clamp_nat {y : Int} (n : Nat) (h : 0 ≤ y) : max 0 (min y (n : Int)) = ((min y.toNat n : Nat) : Int) := by
  obtain ⟨k, rfl⟩ := Int.eq_ofNat_of_zero_le h
  rw [Int.toNat_natCast]
  rcases Nat.le_total k n with h | h
  · rw [Int.min_eq_left (Int.ofNat_le.mpr h), Nat.min_eq_left h, Int.max_eq_right (Int.natCast_nonneg _)]
  · rw [Int.min_eq_right (Int.ofNat_le.mpr h), Nat.min_eq_right h, Int.max_eq_right (Int.natCast_nonneg _)]
theorem pick_run' {x y : Int} (vs : List Value) (h : 0 ≤ x) (h2 : 0 ≤ y) : (slicePick vs.toArray (some x) (some y) none).toList = (vs.take y.toNat).drop x.toNat := by
  have e : sliceBounds (some x) (some y) none vs.toArray.size = (((min x.toNat vs.toArray.size : Nat) : Int), ((min y.toNat vs.toArray.size : Nat) : Int), 1) := by
    simp only [sliceBounds, Option.getD_none, show (1 : Int) > 0 by decide, if_true, if_neg (Int.not_lt.mpr h), if_neg (Int.not_lt.mpr h2)]
    rw [clamp_nat _ h, clamp_nat _ h2]
  rw [kmk_pick_nat _ e, List.size_toArray]
  show (vs.drop (min x.toNat vs.length)).take (min y.toNat vs.length - min x.toNat vs.length) = _
  rw [List.drop_take, kmk_drop_min]
  by_cases hx : x.toNat ≤ vs.length
  · rw [Nat.min_eq_left hx]
    by_cases hy : y.toNat ≤ vs.length
    · rw [Nat.min_eq_left hy]
    · have hy := Nat.le_of_not_le hy
      rw [Nat.min_eq_right hy, List.take_of_length_le (by rw [List.length_drop]; exact Nat.le_refl _), List.take_of_length_le (by rw [List.length_drop]; exact Nat.sub_le_sub_right hy _)]
  · rw [List.drop_of_length_le (Nat.le_of_not_le hx), List.take_nil, List.take_nil]
section
variable {prog : Program} {w : World} {A : Around} {E : Value → Shared → Prop} {s : Shared} {h₀ : Heap} {L l : Addr} {m : Str → Option Value} {news : List (Addr × Obj)} {value slice : PySem.Expr} {vs : List Value} {ss : List Str} {vl vu : Value} {x y : Int} {Q : Value → Shared → Prop}
theorem slice_strs (F : Fr h₀ L s.heap m) (N : News h₀ L s.heap news) (hl : s.heap.IsList l vs.toArray) (pl : IsPart vl (some x)) (pu : IsPart vu (some y)) (hi : StrsAre vs ss) (hx : 0 ≤ x) (hy : 0 ≤ y)
    (h : ∀ D h' ws, Fr h₀ L h' m → News h₀ L h' ((D, listOf (List.toArray ws) 0) :: news) → (∀ p ∈ news, p.1 < D) → StrsAre ws ((ss.take y.toNat).drop x.toNat) → Q (.ref D) { s with heap := h' })
    (hs : subscripted slice false (.ref l) (.ref s.heap.objs.size) = operate [.ref s.heap.objs.size, .ref l] (getItem (.ref l) (.ref s.heap.objs.size))) (ht : ∀ r, letTemporaryGo value (.ref l) r = pure ()) (hz : vs.toArray.size ≤ sizeLine) :
    wpAny (model prog w) A (subscriptTail value slice (.ref l) (.ref s.heap.objs.size)) Q E { s with heap := s.heap.push { cls := .type "slice", data := .fields #[vl, vu, .none] } } := by
  refine kmk_slice_lit F N hl pl pu (pick_run' vs hx hy) (fun D h' F' N' l1 => h D h' _ F' N' l1 (strs_drop (strs_take hi _) _)) hs ht hz
theorem slice_intsN {ns : List Int} (F : Fr h₀ L s.heap m) (N : News h₀ L s.heap news) (hl : s.heap.IsList l vs.toArray) (pl : IsPart vl (some x)) (pu : IsPart vu (some y)) (hi : IntsAre vs ns) (hx : 0 ≤ x) (hy : 0 ≤ y)
    (h : ∀ D h' ws, Fr h₀ L h' m → News h₀ L h' ((D, listOf (List.toArray ws) 0) :: news) → (∀ p ∈ news, p.1 < D) → IntsAre ws ((ns.take y.toNat).drop x.toNat) → Q (.ref D) { s with heap := h' })
    (hs : subscripted slice false (.ref l) (.ref s.heap.objs.size) = operate [.ref s.heap.objs.size, .ref l] (getItem (.ref l) (.ref s.heap.objs.size))) (ht : ∀ r, letTemporaryGo value (.ref l) r = pure ()) (hz : vs.toArray.size ≤ sizeLine) :
    wpAny (model prog w) A (subscriptTail value slice (.ref l) (.ref s.heap.objs.size)) Q E { s with heap := s.heap.push { cls := .type "slice", data := .fields #[vl, vu, .none] } } := by
  refine kmk_slice_lit F N hl pl pu (pick_run' vs hx hy) (fun D h' F' N' l1 => h D h' _ F' N' l1 ((hi.take _).drop _)) hs ht hz
end
end Mine
end

section
open PySem PySem.W PyProof.Rows PySem.Calls
set_option Elab.async false
set_option linter.unusedVariables false
set_option linter.unusedSimpArgs false
set_option maxRecDepth 100000
set_option maxHeartbeats 2000000
set_option pp.maxSteps 1200
set_option pp.deepTerms false
namespace Mine
def WStep (h₀ : Heap) (L : Addr) (J : (Str → Option Value) → List (Addr × Obj) → Array GenState → Prop) (s s₃ : Shared) : Prop :=
  ∃ h m news g tk, s₃ = { s with heap := h, gens := g, toks := tk } ∧ Fr h₀ L h m ∧ News h₀ L h news ∧ J m news g
section
variable {prog : Program} {w : World} {A : Around} {s : Shared} {env : Env} {R : Result → Shared → Prop} {h₀ : Heap} {L : Addr}
theorem stepW {h₀ : Heap} {L : Addr} {J : (Str → Option Value) → List (Addr × Obj) → Array GenState → Prop} {s : Shared} {h : Heap} {m : Str → Option Value} {news : List (Addr × Obj)} {g : Array GenState} {tk : Nat}
    (F : Fr h₀ L h m) (N : News h₀ L h news) (j : J m news g) : WStep h₀ L J s { s with heap := h, gens := g, toks := tk } := ⟨h, m, news, g, tk, rfl, F, N, j⟩
theorem while_K (J : Nat → (Str → Option Value) → List (Addr × Obj) → Array GenState → Prop) (k₀ : Nat) {m₀ : Str → Option Value} {news₀ : List (Addr × Obj)} {test : Expr} {body orelse : List Stmt}
    (F₀ : Fr h₀ L s.heap m₀) (N₀ : News h₀ L s.heap news₀) (j0 : J k₀ m₀ news₀ s.gens)
    (turn : ∀ k m news h g tk, J k m news g → Fr h₀ L h m → News h₀ L h news → ∀ S : Shared → Prop, (∀ s₃, WStep h₀ L (fun m' news' g' => ∃ k', k' < k ∧ J k' m' news' g') s s₃ → S s₃) → ∀ E' : Value → Shared → Prop,
      wpAny (model prog w) A (isTrue test env (eval test env)) (fun b s₂ =>
        if b then wpAny (model prog w) A (execs body env) (fun f s₃ => match f with
            | .next | .cont => S s₃
            | .brk => R (.ok .next) s₃
            | .ret v => R (.ok (.ret v)) s₃) E' s₂
        else wpAny (model prog w) A (execs orelse env) (fun f s₃ => R (.ok f) s₃) E' s₂)
        E' { s with heap := h, gens := g, toks := tk }) :
    codeAny (model prog w) A (.whileLoop test body orelse env) R s := by
  refine codeAny_whileLoop (I := fun k s₁ => ∃ h m news g tk, s₁ = { s with heap := h, gens := g, toks := tk } ∧ Fr h₀ L h m ∧ News h₀ L h news ∧ J k m news g) ?_ k₀ ⟨s.heap, m₀, news₀, s.gens, s.toks, rfl, F₀, N₀, j0⟩
  rintro k s₁ ⟨h, m, news, g, tk, rfl, F, N, hJ⟩
  refine wpAny_mono (turn k m news h g tk hJ F N _ (fun _ z => z) _) (fun b s₂ h₂ => ?_) fun _ _ e => e
  cases b with
  | false => exact h₂
  | true =>
    simp only [if_true] at h₂ ⊢
    refine wpAny_mono h₂ (fun f s₃ h₃ => ?_) fun _ _ e => e
    have fin : WStep h₀ L (fun m' news' g' => ∃ k', k' < k ∧ J k' m' news' g') s s₃ → ∃ k', k' < k ∧ ∃ h m news g tk, s₃ = { s with heap := h, gens := g, toks := tk } ∧ Fr h₀ L h m ∧ News h₀ L h news ∧ J k' m news g := by
      rintro ⟨h, m, news, g, tk, e, F, N, k', hk, hJ⟩
      exact ⟨k', hk, h, m, news, g, tk, e, F, N, hJ⟩
    cases f with
    | next => exact fin h₃
    | cont => exact fin h₃
    | brk => exact h₃
    | ret v => exact h₃
def WStep1 (h₀ : Heap) (L : Addr) (news : List (Addr × Obj)) (J : (Str → Option Value) → Prop) (s s₃ : Shared) : Prop :=
  ∃ h m tk, s₃ = { s with heap := h, toks := tk } ∧ Fr h₀ L h m ∧ News h₀ L h news ∧ J m
theorem while_K1 (J : Nat → (Str → Option Value) → Prop) (k₀ : Nat) {m₀ : Str → Option Value} {news₀ : List (Addr × Obj)} {test : Expr} {body orelse : List Stmt}
    (F₀ : Fr h₀ L s.heap m₀) (N₀ : News h₀ L s.heap news₀) (j0 : J k₀ m₀)
    (turn : ∀ k m h tk, J k m → Fr h₀ L h m → News h₀ L h news₀ → ∀ S : Shared → Prop, (∀ s₃, WStep1 h₀ L news₀ (fun m' => ∃ k', k' < k ∧ J k' m') s s₃ → S s₃) → ∀ E' : Value → Shared → Prop,
      wpAny (model prog w) A (isTrue test env (eval test env)) (fun b s₂ =>
        if b then wpAny (model prog w) A (execs body env) (fun f s₃ => match f with
            | .next | .cont => S s₃
            | .brk => R (.ok .next) s₃
            | .ret v => R (.ok (.ret v)) s₃) E' s₂
        else wpAny (model prog w) A (execs orelse env) (fun f s₃ => R (.ok f) s₃) E' s₂)
        E' { s with heap := h, toks := tk }) :
    codeAny (model prog w) A (.whileLoop test body orelse env) R s := by
  refine while_K (fun k m news g => news = news₀ ∧ g = s.gens ∧ J k m) k₀ F₀ N₀ ⟨rfl, rfl, j0⟩ ?_
  rintro k m news h g tk ⟨rfl, rfl, hJ⟩ F N S hS E'
  refine wpAny_mono (turn k m h tk hJ F N _ (fun _ z => z) _) (fun b s₂ h₂ => ?_) fun _ _ e => e
  cases b with
  | false => exact h₂
  | true =>
    simp only [if_true] at h₂ ⊢
    refine wpAny_mono h₂ (fun f s₃ h₃ => ?_) fun _ _ e => e
    cases f with
    | next => obtain ⟨h, m, tk, e, F, N, k', hk, hJ⟩ := h₃; exact hS _ ⟨h, m, _, _, tk, e, F, N, k', hk, rfl, rfl, hJ⟩
    | cont => obtain ⟨h, m, tk, e, F, N, k', hk, hJ⟩ := h₃; exact hS _ ⟨h, m, _, _, tk, e, F, N, k', hk, rfl, rfl, hJ⟩
    | brk => exact h₃
    | ret v => exact h₃
end
theorem known1w {m : Str → Option Value} {a : Str} {va : Value} (h1 : m a = some va) : m = fun z => if z = a then some va else m z := kstep h1 rfl
theorem known4 {m : Str → Option Value} {a b c d : Str} {va vb vc vd : Value} (h1 : m a = some va) (h2 : m b = some vb) (h3 : m c = some vc) (h4 : m d = some vd) : m = fun z => if z = a then some va else if z = b then some vb else if z = c then some vc else if z = d then some vd else m z := kstep h1 (kstep h2 (kstep h3 (kstep h4 rfl)))
theorem known5 {m : Str → Option Value} {a b c d e : Str} {va vb vc vd ve : Value} (h1 : m a = some va) (h2 : m b = some vb) (h3 : m c = some vc) (h4 : m d = some vd) (h5 : m e = some ve) : m = fun z => if z = a then some va else if z = b then some vb else if z = c then some vc else if z = d then some vd else if z = e then some ve else m z := kstep h1 (kstep h2 (kstep h3 (kstep h4 (kstep h5 rfl))))
end Mine
end

theorem Mine.rs7 {M : Model} {A : Around} {Q : Nat → Shared → Prop} {E : Value → Shared → Prop} {s : Shared} (h : wpAny M A (pure 1) Q E s) : wpAny M A (pure 1) Q E s := by first | (walk1; fail) | exact h
section
open PySem PySem.W PyProof.Rows PySem.Calls
set_option Elab.async false
set_option linter.unusedVariables false
set_option linter.unusedSimpArgs false
set_option maxRecDepth 100000
set_option maxHeartbeats 2000000
set_option pp.maxSteps 1200
set_option pp.deepTerms false
namespace Mine
set_option maxHeartbeats 8000000
local macro_rules | `(tactic| walk_at $s) => if s.getString == "CompSrcT" then `(tactic| walk_at "own s1") else if s.getString == "subscriptTail Name Slice ref ref" then `(tactic| refine stop_here ?_) else Lean.Macro.throwUnsupported
def Fresh (P : List (Addr × Obj) → Prop) (base a b : List (Addr × Obj)) : Prop := ∃ fr, b = fr ++ a ∧ P fr ∧ ∀ p ∈ fr, ∀ x ∈ base, x.1 ≠ p.1
theorem Fresh.start {P : List (Addr × Obj) → Prop} {base a : List (Addr × Obj)} (h : P []) : Fresh P base a a := ⟨[], rfl, h, fun _ h => nomatch h⟩
theorem Fresh.sub {P : List (Addr × Obj) → Prop} {base a b : List (Addr × Obj)} (h : Fresh P base a b) : ∀ p ∈ a, p ∈ b := fun p hp => by
  obtain ⟨fr, rfl, _⟩ := h
  exact List.mem_append_right _ hp
theorem Fresh.cons {P P' : List (Addr × Obj) → Prop} {base a b : List (Addr × Obj)} {q : Addr × Obj} (h : Fresh P base a b) (hP : ∀ fr, P fr → P' (q :: fr)) (hq : ∀ x ∈ base, x.1 ≠ q.1) : Fresh P' base a (q :: b) := by
  obtain ⟨fr, rfl, h1, h2⟩ := h
  refine ⟨q :: fr, rfl, hP fr h1, fun p hp => ?_⟩
  revert p; exact (allC (hq) (fun p hp => h2 p hp))
def RowsAt (led : List (Addr × Obj)) (as : List Addr) (f : Nat → List Int) : Prop := ∀ i a, as[i]? = some a → ∃ vs n, (a, listOf vs n) ∈ led ∧ IntsAre vs.toList (f i)
def wayOk (words : List Str) (wd : Int) (j h : Nat) : Bool := h + 1 == j || decide (((Str.join " " ((words.take j).drop h)).length : Int) < wd)
def wayOf (words : List Str) (wd : Int) (j : Nat) : List Int := (natsOf j (wayOk words wd j)).map fun (h : Nat) => (h : Int)
theorem rows_snoc {led : List (Addr × Obj)} {as : List Addr} {f : Nat → List Int} {k : Nat} {D : Addr} {ys : List Value} {n : Nat} (h : RowsAt led as f) (hl : as.length = k) (hy : IntsAre ys (f k)) : RowsAt ((D, listOf ys.toArray n) :: led) (as ++ [D]) f := fun i a e => by
  rcases Nat.lt_trichotomy i as.length with h1 | h1 | h1
  · rw [List.getElem?_append_left h1] at e
    obtain ⟨vs, n, h2, h3⟩ := h i a e
    exact ⟨vs, n, .tail _ h2, h3⟩
  · subst h1
    rw [List.getElem?_append_right (Nat.le_refl _)] at e
    simp at e
    subst e
    exact ⟨_, n, .head _, hl ▸ hy⟩
  · rw [List.getElem?_eq_none (by simp; omega)] at e; cases e
theorem off1_of {D : Addr} : ∀ {l : List (Addr × Obj)}, LCg.Off1 D l → ∀ p ∈ l, p.1 ≠ D
  | [], _, _, h => nomatch h
  | q :: r, h, p, hp => by
    revert p; exact (allC (h.1) (fun p hp => off1_of h.2 p hp))
theorem join_le (sep : Str) : ∀ ss : List Str, (Str.join sep ss).length ≤ (ss.map (·.length)).sum + ss.length * sep.length
  | [] => by show 0 ≤ _; omega
  | [x] => by show x.length ≤ _; simp
  | x :: y :: r => by
    have ih := join_le sep (y :: r)
    show (x ++ sep ++ Str.join sep (y :: r)).length ≤ _
    rw [strLen_append, strLen_append, List.map_cons, List.sum_cons, List.length_cons, Nat.succ_mul]; omega
theorem txt_joinS (sep : Str) (l : List Str) : Txt.join sep l = Str.join sep l := StrLaws.glued_eq_join sep l
theorem words_le {words : List Str} {B : Nat} (hwb : ∀ x ∈ words, x.length ≤ B) (i k : Nat) : ((((words.take k).drop i).map (·.length)).sum) ≤ ((words.take k).drop i).length * B :=
  StrLaws.sumLen_le _ fun y hy => hwb y (List.mem_of_mem_take (List.mem_of_mem_drop hy))
theorem ways_ok {w : World} {mean : ExcName → Option Value} {mg mb : Str → Option Value} : ∀ (dp un : Nat) (gd : Option (List Code)) (cn : Str) (cs : Scope) (a : Addr) (ccd : Value) (cl : List (Str × Addr)) (outer : List Env) (A₀ : Around) (base h₀ : Heap) (L : Addr) (m : Str → Option Value) (news : List (Addr × Obj)) (s : Shared) (Q E : Value → Shared → Prop) (lw : Addr) (wv : List Value) (words : List Str) (nw : Nat) (wd : Int) (tw : Tok) (rest : List (Addr × Obj))
    (hnews : news = (lw, listOf wv.toArray nw) :: rest),
    ∀ (hB : Below A₀ base outer h₀) (hF : Fr h₀ L s.heap m) (hX : (Mine.top.heap_1 w.params).In h₀) (hN : News h₀ L s.heap news) (hT : Top topProg (looseW Mine.top.view_1 [Str.ofString "_safe_string", Str.ofString "_Accumulator"] ++ List.map (fun x => x.name) (recsOf Mine.top.view_1) ++ List.map (fun x => x.fst) (litsOf Mine.top.view_1) ++ List.map (fun x => x.name) (clssOf Mine.top.view_1 (looseW Mine.top.view_1 [Str.ofString "_safe_string", Str.ofString "_Accumulator"]))) mean mg mb h₀) (hk : cs.kind = .function) (hd : dp + 20 < recursionLimit) (hu : un + 600 < cLine) (hw : 0 ≤ wd ∧ wd ≤ 9) (hws : StrsAre wv words) (hwl : words.length = 5) (hwb : ∀ x ∈ words, x.length ≤ 100)
    (hret : ∀ r as n fr h' tk', Fr h₀ L h' m → News h₀ L h' ((r, listOf (as.map Value.ref).toArray n) :: (fr ++ news)) → as.length = 6 → RowsAt fr as (wayOf words wd) → (∀ p ∈ fr, p.1 ≠ r) → (∀ p ∈ news, p.1 ≠ r) → (∀ p ∈ fr, ∀ x ∈ news, x.1 ≠ p.1) → Q (.ref r) { s with heap := h', toks := tk' }),
    wpAny (model PySem.Challenge.rw_wu0081_01.row.prog w) (ktrTop dp un gd cn cs L a ccd cl outer) (call (.ref 302) [.ref lw, .int wd tw]) Q E s := by
  k_fill
  intro dp un gd cn cs a ccd cl outer A₀ base h₀ L m news s Q E lw wv words nw wd tw rest hnews B F X N T hk hd hu hw hws hwl hwb hret
  refine absG fun G99 k99 => ?_
  subst hnews
  refine k99.go ?_
  clear k99 G99
  refine wpAny_call ?_
  k_dflt (refine' code_defC ?k1 ?k2 ?k3 ?k4 ?k5 ?kA ?kF ?kK ?k6 ?k7 ?k8 ?k9 ?kB ?kD ?_ ?c2 ?c3 ?c4; (case kA => exact rfl); (case kF => exact rfl); (case kK => assumption); (case k1 => k_asm); (case k2 => k_asm); (case k3 => k_asm); (case k4 => k_asm); (case k5 => k_asm); (case k6 => k_is); (case k7 => k_is); (case k8 => ktr_room); (case k9 => first | exact BindsTo.of_eq rfl | exact binds_K (by k_in) rfl (by k_is) rfl rfl rfl); (case kB => exact rfl); (case kD => decide +kernel); (case c2 => exact rfl); (case c3 => exact rfl); (case c4 => exact rfl); k_whole; intro g' L' h' tk' cells' FG' F' N' Y' B' X' T' l1; (try k_lt l1); k_cells Y'; (try simp only [List.cons_append, List.nil_append] at N'); (try dsimp only); (try k_fold))
  k_steps
  rename_i lv hA lp kp F1 N1
  have hlw : wv.toArray.size = words.length := by rw [List.size_toArray]; exact hws.length
  have hz9 : wv.toArray.size ≤ sizeLine := by rw [hlw, hwl]; decide
  refine Calls.call_len_list (l := lw) (items := wv.toArray) (N1.isList (by k_mem)) (by rw [hlw, hwl]; decide) ?_
  rw [hlw, hwl]
  k_steps
  (with_reducible rename IsRange _ _ _ _ _ _ _ _ => hR)
  (with_reducible rename Fr g' L' _ _ => F3)
  (with_reducible rename News g' L' _ _ => N3)
  refine pyIter_range_K (a := 0) (b := 6) (c := 1) (small_one (by decide) (by decide) (by decide) (by decide)) F3 N3 hR (fun I h4 F4 N4 nI lI zI itI => ?_)
  clear F3 N3 hR
  refine for_K (Walks.range rfl I 0 1 6) (fun i h st => ⟨_, st⟩) (fun k m' nw' g9 => g9 = s.gens ∧ m' "ways" = some (.ref lv) ∧ ∃ (oj : Obj) (v0 : Option Value) (as : List Addr) (nl : Nat) (rest' : List (Addr × Obj)),
      nw' = (lv, listOf (as.map Value.ref).toArray nl) :: (L' + 1 + 1 + 1, oj) :: (L' + 1 + 1, _) :: (L' + 1, _) :: (lw, listOf wv.toArray nw) :: rest' ∧ oj.data = .cell v0 ∧ as.length = k ∧ Fresh (fun fr => RowsAt fr as (wayOf words wd)) ((lw, listOf wv.toArray nw) :: rest) rest rest' ∧ (∀ p ∈ rest', p.1 ≠ lv) ∧ (∀ p ∈ rest', p.1 ≠ L' + 1 + 1 + 1)) lI zI itI F4 N4 nI
      ⟨rfl, rfl, exI5 _ _ [] 0 rest ⟨rfl, by assumption, rfl, Fresh.start (fun i a h => by simp at h), fun p hp => Nat.ne_of_lt (lt_of_all lp.2.2.2.2 p hp), fun p hp => Nat.ne_of_lt (Nat.lt_succ_of_lt (Nat.lt_succ_of_lt (Nat.lt_succ_of_lt (lt_of_all l1.2 p hp))))⟩⟩ ?_ ?_
  · intro k v1 m1 nw1 h5 g5 tk5 o5 hk9 hP hJ F5 N5 hn5 S9 hS9 E9
    refine absG fun G99 k99 => ?_
    refine andE3 hJ fun e9z0 j1 h9z0 => ?_
    refine exE5 h9z0 fun oj v0 as nl rest' h9z1 => ?_
    refine andE6 h9z1 fun e9z1 jd jl jG jn1 jn2 => ?_
    clear h9z1 h9z0 hJ
    subst e9z0
    subst e9z1
    obtain ⟨tk8, rfl⟩ := hP
    refine k99.go ?_
    clear k99 G99
    rw [known1w j1] at F5
    rw [Int.mul_one, Int.zero_add]
    have i1 : @Ne Nat lv I := hn5 _ (.head _)
    have i2 : @Ne Nat (L' + 1 + 1 + 1) I := hn5 _ (.tail _ (.head _))
    k_steps
    refine comp_ints (wayOk words wd k) (fun h => (h : Int)) (fun i v I' oI C oC D m2 ys h6 tk6 E6 hi hv hC hx F6 N6 off ne => ?_) (fun ys hys => ?_)
    · refine absG fun G99 k99 => ?_
      obtain ⟨t6, rfl⟩ := hv
      refine k99.go ?_
      clear k99 G99
      k_steps
      · exact LCg.CompEnd.intro F6 N6 _ (fun p hp => hp) off trivial ⟨rfl, by unfold wayOk; rw [Bool.or_eq_true]; exact .inl (by rw [beq_iff_eq]; omega), _, by rw [Int.zero_add]⟩
      unfold Stop
      (k_here; k_dflt (refine' slice_strs ?Fzq ?Nzq ?lzq ?pzq ?qzq ?izq ?hxzq ?hyzq ?_ ?szq ?tzq ?zzq; (case Fzq => k_asm); (case Nzq => k_asm); (case lzq => kmk_list); (case pzq => exact IsPart.int _ _); (case qzq => exact IsPart.int _ _); (case izq => assumption); (case hxzq => omega); (case hyzq => omega); (case szq => with_unfolding_all rfl); (case tzq => kmk_pure); (case zzq => assumption)); intro Dzq hzq wszq Fzq Nzq l1q hIzq; (try k_lt l1q))
      k_steps
      (with_reducible rename Fr g' _ _ _ => F7)
      (with_reducible rename News g' _ _ _ => N7)
      (with_reducible rename StrsAre _ (List.drop _ _) => hss)
      have hln : ((words.take (k : Int).toNat).drop (0 + (i : Int)).toNat).length ≤ 5 := by rw [List.length_drop, List.length_take]; exact Nat.le_trans (Nat.sub_le _ _) (Nat.le_trans (Nat.min_le_right _ _) (Nat.le_of_eq hwl))
      have hsm := words_le hwb (0 + (i : Int)).toNat (k : Int).toNat
      have hsm2 : ((words.take (k : Int).toNat).drop (0 + (i : Int)).toNat).length * 100 ≤ 500 := by omega
      refine join_listW ⟨_, (N7 _ (.head _)).1, rfl, _, rfl⟩ hss (by decide +kernel) (by omega) (fun t' k' => ?_)
      rw [txt_joinS]
      have hjl := join_le (PySem.Str.ofString " ") ((words.take (k : Int).toNat).drop (0 + (i : Int)).toNat)
      rw [show (PySem.Str.ofString " ").length = 1 by decide +kernel] at hjl
      have hjb : (Str.join (PySem.Str.ofString " ") ((words.take (k : Int).toNat).drop (0 + (i : Int)).toNat)).length ≤ 600 := by omega
      have ew : wayOk words wd k i = ((i + 1 == k) || decide (((Str.join (PySem.Str.ofString " ") ((words.take (k : Int).toNat).drop (0 + (i : Int)).toNat)).length : Int) < wd)) := by
        unfold wayOk; rw [Int.toNat_natCast, Int.zero_add, Int.toNat_natCast]
      generalize Str.join (PySem.Str.ofString " ") ((words.take (k : Int).toNat).drop (0 + (i : Int)).toNat) = js at hjb ew ⊢
      k_steps
      · refine LCg.CompEnd.intro F7 N7 _ (fun p hp => .tail _ hp) off trivial ⟨rfl, ?_, _, by rw [Int.zero_add]⟩
        rw [ew, Bool.or_eq_true]; exact .inr (decide_eq_true (by assumption))
      · refine LCg.CompEnd.intro F7 N7 _ (fun p hp => .tail _ hp) off trivial ⟨rfl, ?_⟩
        rw [ew, Bool.or_eq_false_iff]; exact ⟨beq_eq_false_iff_ne.mpr (by omega), decide_eq_false (by assumption)⟩
    · k_steps
      (with_reducible rename Fr g' _ _ _ => F7)
      (with_reducible rename News g' _ _ _ => N7)
      (with_reducible rename _ ∧ _ => o7)
      rename_i D7 _ _ _
      (with_reducible rename Obj => oj7)
      have ea : (as.map Value.ref).toArray.push (.ref D7) = ((as ++ [D7]).map Value.ref).toArray := by simp
      rw [ea, show LCg.lst ys = listOf ys.toArray ys.length from rfl] at N7
      have hk0 : ((k : Int) - 0).toNat = k := by rw [Int.sub_zero]; rfl
      rw [hk0] at hys
      refine hS9 _ (stepK (news := (lv, listOf ((as ++ [D7]).map Value.ref).toArray (nl + 1)) :: (L' + 1 + 1 + 1, oj7) :: (L' + 1 + 1, _) :: (L' + 1, _) :: (lw, listOf wv.toArray nw) :: (D7, listOf ys.toArray ys.length) :: rest') F7 (fun p hp => N7 p ?_) (fun p hp => ?_) ⟨rfl, rfl, exI5 oj7 _ (as ++ [D7]) (nl + 1) ((D7, listOf ys.toArray ys.length) :: rest') ⟨rfl, by assumption, by simp [jl], jG.cons (fun fr hfr => rows_snoc hfr jl hys) (fun x hx => ?_), fun p hp => ?_, fun p hp => ?_⟩⟩)
      · revert p; exact (allC (.tail _ (.head _)) (allC (.tail _ (.tail _ (.head _))) (allC (mAt 3) (allC (mAt 4) (allC (mAt 5) (allC (mAt 6) (allC (.head _) (fun p hp => (mTl 7 hp)))))))))
      · revert p; exact (allC (i1) (allC (i2) (allC (hn5 _ (.tail _ (.tail _ (.head _)))) (allC (hn5 _ (mAt 3)) (allC (hn5 _ (mAt 4)) (allC (fun e => o7.1 e.symm) (fun p hp => (hn5 _ (mTl 5 hp)))))))))
      · revert x; exact (allC (o7.2.2.2.2.2.1) (fun x hx => off1_of o7.2.2.2.2.2.2 x (jG.sub x hx)))
      · revert p; exact (allC (fun e => o7.2.1 e.symm) (fun p hp => jn1 p hp))
      · revert p; exact (allC (fun e => o7.2.2.1 e.symm) (fun p hp => jn2 p hp))
  · intro m1 nw1 h5 g5 tk5 hJ F5 N5
    refine absG fun G99 k99 => ?_
    refine andE3 hJ fun e9z0 j1 h9z0 => ?_
    refine exE5 h9z0 fun oj v0 as nl rest' h9z1 => ?_
    refine andE6 h9z1 fun e9z1 jd jl jG jn1 jn2 => ?_
    clear h9z1 h9z0 hJ
    subst e9z0
    subst e9z1
    refine k99.go ?_
    clear k99 G99
    rw [known1w j1] at F5
    k_steps
    (with_reducible rename Fr h₀ L _ m => F8)
    (with_reducible rename News h₀ L _ _ => N8)
    refine absG fun G99 k99 => ?_
    obtain ⟨fr, rfl, jR, jB⟩ := jG
    refine k99.go ?_
    clear k99 G99
    refine hret _ as nl fr _ _ F8 (fun p hp => N8 p ?_) jl jR (fun p hp => jn1 p (List.mem_append_left _ hp)) (fun p hp => ?_) jB
    · revert p; exact (allC (.head _) (fun p hp => by
                  rcases List.mem_append.mp hp with hp | hp
                  · exact .tail _ (.tail _ (.tail _ (.tail _ (.tail _ (List.mem_append_left _ hp)))))
                  · rcases List.mem_cons.mp hp with rfl | hp
                    · exact .tail _ (.tail _ (.tail _ (.tail _ (.head _))))
                    · exact .tail _ (.tail _ (.tail _ (.tail _ (.tail _ (List.mem_append_right _ hp)))))))
    · revert p; exact (allC (Nat.ne_of_lt lp.2.2.2.1) (fun p hp => jn1 p (List.mem_append_right _ hp)))
end Mine
end

section
open PySem PySem.W PyProof.Rows PySem.Calls
set_option Elab.async false
set_option linter.unusedVariables false
set_option linter.unusedSimpArgs false
set_option maxRecDepth 100000
set_option maxHeartbeats 2000000
set_option pp.maxSteps 1200
set_option pp.deepTerms false
namespace Mine
section
variable {prog : Program} {w : World} {A : Around} {s : Shared} {env : Env} {R : Result → Shared → Prop} {h₀ : Heap} {L : Addr}
theorem pyIter_list_K {E : Value → Shared → Prop} {m : Str → Option Value} {news : List (Addr × Obj)} {l : Addr} {its : Array Value} {Q : Value → Shared → Prop} (F : Fr h₀ L s.heap m) (N : News h₀ L s.heap news) (hl : s.heap.IsList l its)
    (hq : ∀ I h, Fr h₀ L h m → News h₀ L h news → (∀ p ∈ news, p.1 ≠ I) → L ≠ I → h₀.get? I = none → l ≠ I → h.IsListIter I l 0 → Q (.ref I) { s with heap := h }) :
    wpAny (model prog w) A (pyIter (.ref l)) Q E s := by
  refine wpAny_pyIter_list hl ?_
  refine absG fun G99 k99 => ?_
  obtain ⟨F1, N1, a1, a2, a3, a4⟩ := new_K (o := { cls := .type "list_iterator", data := .fields #[.ref l, .int 0 0] }) F N rfl
  refine k99.go ?_
  clear k99 G99
  exact hq _ _ F1 N1 a1 a2 a3 (Nat.ne_of_lt (by obtain ⟨_, e, _⟩ := hl; exact Heap.lt_size e)) ⟨_, a4, rfl, rfl⟩
theorem for_KL {I ax : Addr} {its : Array Value} {lo : Obj} (hh : A.handled = none) (hne : ax ≠ I) (hlo : lo.cls = .type "list") (hld : ∃ n, lo.data = .seq its n) (J : Nat → (Str → Option Value) → List (Addr × Obj) → Array GenState → Prop) (hJ : ∀ i m news g, J i m news g → (ax, lo) ∈ news)
    {m₀ : Str → Option Value} {news₀ : List (Addr × Obj)} {target : Expr} {body orelse : List Stmt}
    (hLI : L ≠ I) (h0I : h₀.get? I = none) (st0 : s.heap.IsListIter I ax 0) (F₀ : Fr h₀ L s.heap m₀) (N₀ : News h₀ L s.heap news₀) (hn₀ : ∀ p ∈ news₀, p.1 ≠ I) (j0 : J 0 m₀ news₀ s.gens)
    (turn : ∀ i v m₁ news₁ h g tk o, i < its.size → its[i]? = some v → J i m₁ news₁ g → Fr h₀ L h m₁ → News h₀ L h ((I, o) :: news₁) → (∀ p ∈ news₁, p.1 ≠ I) → ∀ S : Shared → Prop, (∀ s₃, StepK h₀ L I o (J (i + 1)) s s₃ → S s₃) → ∀ E' : Value → Shared → Prop,
      wpAny (model prog w) A (assign target env v) (fun _ s₂ => wpAny (model prog w) A (execs body env) (fun f s₃ => match f with
        | .next | .cont => S s₃
        | .brk => R (.ok .next) s₃
        | .ret v => R (.ok (.ret v)) s₃) E' s₂) E' { s with heap := h, gens := g, toks := tk })
    (done : ∀ m₁ news₁ h g tk, J its.size m₁ news₁ g → Fr h₀ L h m₁ → News h₀ L h news₁ → wpAny (model prog w) A (execs orelse env) (fun f s₃ => R (.ok f) s₃) (notedBy (model prog w) A env fun e s' => R (.error e) s') { s with heap := h, gens := g, toks := tk })
    (ht : ∀ v, letOwnedTupleGo target (.ref I) v = pure () := by intro _; rfl) : codeAny (model prog w) A (.forLoop target (.ref I) body orelse env) R s := by
  have W : Walks prog w A I [I, ax] [I] its.size (fun i v => its[i]? = some v) (fun i h => h.IsListIter I ax i ∧ h.IsList ax its) := Walks.list hh I ax hne its
  have lst : ∀ {h : Heap}, h.get? ax = some lo → h.IsList ax its := fun {h} e => ⟨lo, e, hlo, hld⟩
  refine codeAny_forLoop (I := fun k s₁ => ∃ i h m news g tk, k = its.size - i ∧ i ≤ its.size ∧ s₁ = { s with heap := h, gens := g, toks := tk } ∧ h.IsListIter I ax i ∧ Fr h₀ L h m ∧ News h₀ L h news ∧ (∀ p ∈ news, p.1 ≠ I) ∧ J i m news g) ?_ (its.size - 0) ⟨0, s.heap, m₀, news₀, s.gens, s.toks, rfl, Nat.zero_le _, rfl, st0, F₀, N₀, hn₀, j0⟩ ht
  rintro k s₁ ⟨i, h, m₁, news₁, g, tk, rfl, hi, rfl, st, F, N, hn, hJi⟩
  have hax : h.get? ax = some lo := (N _ (hJ _ _ _ _ hJi)).1
  rcases Nat.lt_or_eq_of_le hi with hlt | rfl
  · refine W.item i _ _ _ hlt ⟨st, lst hax⟩ fun v h' tk' hP st' hk => ?_
    have hk' : ∀ b o, b ≠ I → h.get? b = some o → h'.get? b = some o := fun b o hb e => hk b o (fun q => hb (List.mem_singleton.mp q)) e
    refine absG fun G99 k99 => ?_
    obtain ⟨o, ho, hrec⟩ := st'.1
    refine k99.go ?_
    clear k99 G99
    have F' := fr_mod F hk' hLI h0I
    have hax' : h'.get? ax = some lo := hk' _ _ hne hax
    have N' : News h₀ L h' ((I, o) :: news₁) := fun p hp => by
      rcases List.mem_cons.mp hp with rfl | hp
      · exact ⟨ho, fun e => hLI e.symm, h0I⟩
      · exact ⟨hk' _ _ (hn p hp) (N p hp).1, (N p hp).2⟩
    refine wpAny_mono (turn i v m₁ news₁ h' g tk' o hlt hP hJi F' N' hn _ (fun _ z => z) _) (fun _ s₂ h₂ => wpAny_mono h₂ (fun f s₃ h₃ => ?_) fun _ _ e => e) fun _ _ e => e
    have fin : StepK h₀ L I o (J (i + 1)) s s₃ → ∃ k', k' < its.size - i ∧ ∃ i h m news g tk, k' = its.size - i ∧ i ≤ its.size ∧ s₃ = { s with heap := h, gens := g, toks := tk } ∧ h.IsListIter I ax i ∧ Fr h₀ L h m ∧ News h₀ L h news ∧ (∀ p ∈ news, p.1 ≠ I) ∧ J i m news g := by
      rintro ⟨h3, m3, news3, g3, tk3, rfl, F3, N3, hn3, J3⟩
      exact ⟨its.size - (i + 1), by omega, i + 1, h3, m3, news3, g3, tk3, rfl, hlt, rfl, ⟨o, (N3 _ (.head _)).1, hrec⟩, F3, fun p hp => N3 p (.tail _ hp), hn3, J3⟩
    cases f with
    | next => exact fin h₃
    | cont => exact fin h₃
    | brk => exact h₃
    | ret v => exact h₃
  · refine W.done _ _ _ ⟨st, lst hax⟩ fun h' tk' hk => ?_
    have hk' : ∀ b o, b ≠ I → h.get? b = some o → h'.get? b = some o := fun b o hb e => hk b o (fun q => hb (List.mem_singleton.mp q)) e
    exact done m₁ news₁ h' g tk' hJi (fr_mod F hk' hLI h0I) fun p hp => ⟨hk' _ _ (hn p hp) (N p hp).1, (N p hp).2⟩
end
end Mine
end

section
open PySem PySem.W PyProof.Rows PySem.Calls
set_option Elab.async false
set_option linter.unusedVariables false
set_option linter.unusedSimpArgs false
set_option maxRecDepth 100000
set_option maxHeartbeats 2000000
set_option pp.maxSteps 1200
set_option pp.deepTerms false
namespace Mine
theorem boolsReads {h : Heap} : ∀ {vs : List Value} {bs : List Bool}, LSm.BoolsAre vs bs → ReadsAll h vs (bs.map PyData.bool) []
  | _, _, .nil => .nil
  | _, _, .cons b r => ReadsAll.cons (as := []) (bs := []) (.bool b) (boolsReads r)
theorem boolsLay : ∀ bs : List Bool, PyData.canLayAll0 (bs.map PyData.bool) = true
  | [] => rfl
  | b :: r => by rw [List.map_cons, PyData.canLayAll0, boolsLay r]; rfl
theorem boolsDepth : ∀ bs : List Bool, PyData.depthAll (bs.map PyData.bool) = 0
  | [] => rfl
  | b :: r => by rw [List.map_cons, PyData.depthAll, boolsDepth r]; rfl
theorem boolsAny (bs : List Bool) : ((bs.map PyData.bool).any fun y => PyData.eqv y (.bool true)) = bs.any id := by
  rw [List.any_map]; congr 1; funext b; cases b <;> rfl
theorem notin_bools {prog : Program} {w : World} {A : Around} {E : Value → Shared → Prop} {s : Shared} {D : Addr} {vs : List Value} {bs : List Bool} {n : Nat} {Q : Value → Shared → Prop} (hD : s.heap.get? D = some (listOf vs.toArray n)) (hb : LSm.BoolsAre vs bs) (hu : A.units + 2 < cLine) (h : Q (.bool (!bs.any id)) s) :
    wpAny (model prog w) A (compareOp .NotIn (.bool true) (.ref D)) Q E s := by
  refine SeqAt.notIn_list_reads (.list hD rfl rfl (by simpa using boolsReads hb)) (.bool true) (boolsLay bs) rfl ?_ ?_
  · rw [boolsDepth]; simp only [PyData.depth]; omega
  · rw [boolsAny]; exact h
end Mine
end

section
open PySem PySem.W PyProof.Rows PySem.Calls
set_option Elab.async false
set_option linter.unusedVariables false
set_option linter.unusedSimpArgs false
set_option maxRecDepth 100000
set_option maxHeartbeats 2000000
set_option pp.maxSteps 1200
set_option pp.deepTerms false
namespace Mine
def StepKs (h₀ : Heap) (L : Addr) (own : List (Addr × Obj)) (J : (Str → Option Value) → List (Addr × Obj) → Array GenState → Prop) (s s₃ : Shared) : Prop :=
  ∃ h m news g tk, s₃ = { s with heap := h, gens := g, toks := tk } ∧ Fr h₀ L h m ∧ News h₀ L h (own ++ news) ∧ (∀ p ∈ news, p.1 ∉ own.map (·.1)) ∧ J m news g
theorem own_of {h : Heap} : ∀ (fp : List Addr), (∀ b ∈ fp, ∃ o, h.get? b = some o) → ∃ own : List (Addr × Obj), own.map (·.1) = fp ∧ ∀ p ∈ own, h.get? p.1 = some p.2
  | [], _ => ⟨[], rfl, fun _ hp => nomatch hp⟩
  | b :: r, k => by
    obtain ⟨o, ho⟩ := k b (.head _)
    obtain ⟨own, e, h2⟩ := own_of r fun c hc => k c (.tail _ hc)
    refine ⟨(b, o) :: own, by rw [List.map_cons, e], fun p hp => ?_⟩
    rcases List.mem_cons.mp hp with rfl | hp
    · exact ho
    · exact h2 p hp
section
variable {prog : Program} {w : World} {A : Around} {s : Shared} {env : Env} {R : Result → Shared → Prop} {h₀ : Heap} 
theorem fr_off {h h' : Heap} {L : Addr} {m : Str → Option Value} {fp : List Addr} (F : Fr h₀ L h m) (hk : ∀ b o, b ∉ fp → h.get? b = some o → h'.get? b = some o) (hL : L ∉ fp) (h0 : ∀ b ∈ fp, h₀.get? b = none) : Fr h₀ L h' m :=
  ⟨F.ns.at' fun o e => hk L o hL e, fun b o e => hk b o (fun q => by rw [h0 b q] at e; cases e) (F.keep b o e), F.above⟩
theorem news_off {h h' : Heap} {L : Addr} {news : List (Addr × Obj)} {fp : List Addr} (N : News h₀ L h news) (hk : ∀ b o, b ∉ fp → h.get? b = some o → h'.get? b = some o) (hn : ∀ p ∈ news, p.1 ∉ fp) : News h₀ L h' news :=
  fun p hp => ⟨hk _ _ (hn p hp) (N p hp).1, (N p hp).2⟩
theorem for_KT2 {I : Addr} {fp wr : List Addr} {n : Nat} {Pt : Nat → Array Value → Prop} {St : Nat → Heap → Prop} {Mid : Nat → Addr → Heap → Prop} (W : WalksT prog w A I fp wr n Pt St Mid) (hh : A.handled = none)
    (hSt : ∀ i h, St i h → ∀ b ∈ fp, ∃ o, h.get? b = some o) (hPt : ∀ i vals, Pt i vals → ∃ x y, vals = #[x, y]) (J : Nat → (Str → Option Value) → List (Addr × Obj) → Array GenState → Prop)
    {m₀ : Str → Option Value} {news₀ : List (Addr × Obj)} {xa xb : Str} {pa pb pt : Pos} {kt : Nat} {body orelse : List Stmt}
    (hxa : env.kindOf xa = some .local) (hxb : env.kindOf xb = some .local) (hp : (env.scope.kind == .class || (env.scope.kind == .module && env.locals != env.globals)) = false)
    (hL : env.locals ∉ fp) (h0 : ∀ b ∈ fp, h₀.get? b = none) (st0 : St 0 s.heap) (F₀ : Fr h₀ env.locals s.heap m₀) (N₀ : News h₀ env.locals s.heap news₀) (hn₀ : ∀ p ∈ news₀, p.1 ∉ fp) (j0 : J 0 m₀ news₀ s.gens)
    (turn : ∀ i x y m₁ news₁ h g tk own, i < n → Pt i #[x, y] → J i m₁ news₁ g → own.map (·.1) = fp → Fr h₀ env.locals h (fun z => if z = xb then some y else if z = xa then some x else m₁ z) → News h₀ env.locals h (own ++ news₁) → (∀ p ∈ news₁, p.1 ∉ fp) → ∀ S : Shared → Prop, (∀ s₃, StepKs h₀ env.locals own (J (i + 1)) s s₃ → S s₃) → ∀ E' : Value → Shared → Prop,
      wpAny (model prog w) A (execs body env) (fun f s₃ => match f with
        | .next | .cont => S s₃
        | .brk => R (.ok .next) s₃
        | .ret v => R (.ok (.ret v)) s₃) E' { s with heap := h, gens := g, toks := tk })
    (done : ∀ m₁ news₁ h g tk, J n m₁ news₁ g → Fr h₀ env.locals h m₁ → News h₀ env.locals h news₁ → wpAny (model prog w) A (execs orelse env) (fun f s₃ => R (.ok f) s₃) (notedBy (model prog w) A env fun e s' => R (.error e) s') { s with heap := h, gens := g, toks := tk }) :
    codeAny (model prog w) A (.forLoop (.Tuple [.Name xa pa, .Name xb pb] kt pt) (.ref I) body orelse env) R s := by
  refine codeAny_forLoop_any (I := fun k s₁ => ∃ i h m news g tk, k = n - i ∧ i ≤ n ∧ s₁ = { s with heap := h, gens := g, toks := tk } ∧ St i h ∧ Fr h₀ env.locals h m ∧ News h₀ env.locals h news ∧ (∀ p ∈ news, p.1 ∉ fp) ∧ J i m news g) ?_ (n - 0) ⟨0, s.heap, m₀, news₀, s.gens, s.toks, rfl, Nat.zero_le _, rfl, st0, F₀, N₀, hn₀, j0⟩
  rintro k s₁ ⟨i, h, m₁, news₁, g, tk, rfl, hi, rfl, st, F, N, hn, hJ⟩
  have hkw : ∀ {h h' : Heap}, (∀ b o, b ∉ wr → h.get? b = some o → h'.get? b = some o) → ∀ b o, b ∉ fp → h.get? b = some o → h'.get? b = some o := fun k b o hb e => k b o (fun q => hb (W.sub b q)) e
  rcases Nat.lt_or_eq_of_le hi with hlt | rfl
  · refine W.item i _ _ _ hlt st fun T vals h' tk' hP hT hTu hM hk => ?_
    refine absG fun G99 k99 => ?_
    obtain ⟨x, y, rfl⟩ := hPt _ _ hP
    refine k99.go ?_
    clear k99 G99
    refine W.go _ _ _ i T _ _ _ hM fun h2 st2 hk2 => ?_
    have hTw := W.apart _ _ _ hM
    have F2 := fr_off (fr_off F (hkw hk) hL h0) (hkw hk2) hL h0
    have N2 := news_off (news_off N (hkw hk) hn) (hkw hk2) hn
    have hT2 : h2.IsTuple T #[x, y] := hTu.at fun o e => hk2 T o hTw e
    refine wpAny_assign_Tuple hh hT2 rfl rfl fun h3 hx3 => ?_
    have k3 : ∀ b o, h2.get? b = some o → h3.get? b = some o := fun b o e => hx3 b o (Nat.ne_of_lt (Heap.lt_size e)) e
    have F3 : Fr h₀ env.locals h3 m₁ := ⟨F2.ns.at' fun o e => k3 _ o e, fun b o e => k3 b o (F2.keep b o e), F2.above⟩
    have N3 : News h₀ env.locals h3 news₁ := fun p hp => ⟨k3 _ _ (N2 p hp).1, (N2 p hp).2⟩
    refine absG fun G99 k99 => ?_
    obtain ⟨own, eo, go⟩ := own_of fp (hSt _ _ st2)
    refine k99.go ?_
    clear k99 G99
    have hLn := fun p (hp : p ∈ news₁) => (N2 p hp).2.1
    show wpAny _ A (do holding [y] (assign (.Name xa pa) env x); do holding [] (assign (.Name xb pb) env y); pure ()) _ _ _
    refine wpAny_bind (wpAny_holding (wpAny_assign_Name (wpAny_storeName_local hxa F3.ns (fun h4 hn4 hs4 => ?_) hp)))
    replace hs4 : Heap.SameBut env.locals h3 h4 := hs4
    refine wpAny_bind (wpAny_holding (wpAny_assign_Name (wpAny_storeName_local hxb hn4 (fun h5 hn5 hs5 => wpAny_pure ?_) hp)))
    replace hs5 : Heap.SameBut env.locals h4 h5 := hs5
    have k5 : ∀ b o, b ≠ env.locals → h3.get? b = some o → h5.get? b = some o := fun b o hb e => (hs5.2 b hb).trans ((hs4.2 b hb).trans e)
    have h0L : h₀.get? env.locals = none := Heap.get?_none_of_le F.above
    have F5 : Fr h₀ env.locals h5 (fun z => if z = xb then some y else if z = xa then some x else m₁ z) := ⟨hn5, fun b o e => k5 b o (fun q => by rw [q, h0L] at e; cases e) (F3.keep b o e), F3.above⟩
    have N5 : News h₀ env.locals h5 (own ++ news₁) := fun p hp => by
      rcases List.mem_append.mp hp with hp | hp
      · have hb : p.1 ∈ fp := eo ▸ List.mem_map_of_mem hp
        have hne : p.1 ≠ env.locals := fun q => hL (q ▸ hb)
        exact ⟨k5 _ _ hne (k3 _ _ (go p hp)), hne, h0 _ hb⟩
      · exact ⟨k5 _ _ (hLn p hp) (N3 p hp).1, (N3 p hp).2⟩
    refine wpAny_mono (turn i x y m₁ news₁ h5 g _ own hlt hP hJ eo F5 N5 hn _ (fun _ z => z) _) (fun f s₃ h₃ => ?_) fun _ _ e => e
    have fin : StepKs h₀ env.locals own (J (i + 1)) s s₃ → ∃ k', k' < n - i ∧ ∃ i h m news g tk, k' = n - i ∧ i ≤ n ∧ s₃ = { s with heap := h, gens := g, toks := tk } ∧ St i h ∧ Fr h₀ env.locals h m ∧ News h₀ env.locals h news ∧ (∀ p ∈ news, p.1 ∉ fp) ∧ J i m news g := by
      rintro ⟨h6, m6, news6, g6, tk6, rfl, F6, N6, hn6, J6⟩
      refine ⟨n - (i + 1), by omega, i + 1, h6, m6, news6, g6, tk6, rfl, hlt, rfl, W.frame _ _ _ st2 fun b hb o' e => ?_, F6, fun p hp => N6 p (List.mem_append_right _ hp), eo ▸ hn6, J6⟩
      refine absG fun G99 k99 => ?_
      obtain ⟨p, hp, rfl⟩ := List.mem_map.mp (eo ▸ hb : b ∈ own.map (·.1))
      refine k99.go ?_
      clear k99 G99
      have := go p hp
      rw [e] at this; cases this
      exact (N6 p (List.mem_append_left _ hp)).1
    cases f with
    | next => exact fin h₃
    | cont => exact fin h₃
    | brk => exact h₃
    | ret v => exact h₃
  · refine W.done _ _ _ st fun h' tk' hk => ?_
    exact done m₁ news₁ h' g tk' hJ (fr_off F (hkw hk) hL h0) (news_off N (hkw hk) hn)
end
end Mine
end

section
open PySem PySem.W PyProof.Rows PySem.Calls
set_option Elab.async false
set_option linter.unusedVariables false
set_option linter.unusedSimpArgs false
set_option maxRecDepth 100000
set_option maxHeartbeats 2000000
set_option pp.maxSteps 1200
set_option pp.deepTerms false
namespace Mine

def cellBase : List Int := [3, 0, 21, 17, 4, 160, 3, 85, 6, 122, 50]
def cellAt (ns : List Int) (k : Nat) (b : Int) : Int := b + (if k < ns.length then (ns.getD k 0).fmod 1000000 else 0)
def cellsOf (ns : List Int) : List Int := cellBase.mapIdx fun k b => cellAt ns k b
theorem known2 {m : Str → Option Value} {a b : Str} {va vb : Value} (h1 : m a = some va) (h2 : m b = some vb) : m = fun z => if z = a then some va else if z = b then some vb else m z := kstep h1 (kstep h2 rfl)
theorem intsAre_push' {its : Array Value} {xs : List Int} {n k : Int} {t : Tok} (hI : IntsAre its.toList xs) (e : n = k) : IntsAre (its.push (.int n t)).toList (xs ++ [k]) := e ▸ intsAre_push hI
theorem cells_step {ns : List Int} (i : Nat) (hi : i < 11) : (cellsOf ns).take (i + 1) = (cellsOf ns).take i ++ [cellAt ns i (cellBase[i]'hi)] := by
  have h1 : i < (cellsOf ns).length := by simpa [cellsOf, cellBase] using hi
  rw [List.take_succ_eq_append_getElem h1]
  simp only [cellsOf, List.getElem_mapIdx]
  rfl
theorem enum_objs {h : Heap} {e it l : Addr} {its : Array Value} {i : Nat} (st : (∃ old, IsEnum h e it i old) ∧ h.IsListIter it l i ∧ h.IsList l its) : ∀ b ∈ [e, it, l], ∃ o, h.get? b = some o := by
  obtain ⟨⟨old, a⟩, ⟨o1, b, _⟩, ⟨o2, c, _⟩⟩ := st
  intro x hx
  simp only [List.mem_cons, List.not_mem_nil, or_false] at hx
  rcases hx with rfl | rfl | rfl
  · exact ⟨_, a⟩
  · exact ⟨_, b⟩
  · exact ⟨_, c⟩
theorem cells_ok {w : World} {mean : ExcName → Option Value} {mg mb : Str → Option Value} : ∀ (dp un : Nat) (gd : Option (List Code)) (cn : Str) (cs : Scope) (a : Addr) (ccd : Value) (cl : List (Str × Addr)) (outer : List Env) (A₀ : Around) (base h₀ : Heap) (L : Addr) (m : Str → Option Value) (news : List (Addr × Obj)) (s : Shared) (Q E : Value → Shared → Prop) (l : Addr) (vs : List Value) (ns : List Int),
    ∀ (hB : Below A₀ base outer h₀) (hF : Fr h₀ L s.heap m) (hX : (Mine.top.heap_1 w.params).In h₀) (hN : News h₀ L s.heap news) (hT : Top topProg (looseW Mine.top.view_1 [Str.ofString "_safe_string", Str.ofString "_Accumulator"] ++ List.map (fun x => x.name) (recsOf Mine.top.view_1) ++ List.map (fun x => x.fst) (litsOf Mine.top.view_1) ++ List.map (fun x => x.name) (clssOf Mine.top.view_1 (looseW Mine.top.view_1 [Str.ofString "_safe_string", Str.ofString "_Accumulator"]))) mean mg mb h₀) (hk : cs.kind = .function) (hd : dp + 2 < recursionLimit) (hu : un + 40 < cLine)
    (hl : h₀.IsList l vs.toArray) (hi : IntsAre vs ns) (hle : ns.length ≤ 63)
    (hret : ∀ r h' tk' cs nc, Fr h₀ L h' m → News h₀ L h' ((r, listOf cs nc) :: news) → IntsAre cs.toList (cellsOf ns) → (∀ p ∈ news, p.1 < r) → Q (.ref r) { s with heap := h', toks := tk' }),
    wpAny (model PySem.Challenge.rw_wu0081_01.row.prog w) (ktrTop dp un gd cn cs L a ccd cl outer) (call (.ref 285) [.ref l]) Q E s := by
  k_fill
  intro dp un gd cn cs a ccd cl outer A₀ base h₀ L m news s Q E l vs ns B F X N T hk hd hu hl hi hle hret
  refine wpAny_call ?_
  k_dflt (refine' code_def ?k1 ?k2 ?k3 ?k4 ?k5 ?kA ?kF ?kK ?k6 ?k7 ?k8 ?k9 ?kB ?_ ?c2 ?c3 ?c4 ?c5; (case kA => exact rfl); (case kF => exact rfl); (case kK => assumption); (case k1 => k_asm); (case k2 => k_asm); (case k3 => k_asm); (case k4 => k_asm); (case k5 => k_asm); (case k6 => k_is); (case k7 => k_is); (case k8 => ktr_room); (case k9 => first | exact BindsTo.of_eq rfl | exact binds_K (by k_in) rfl (by k_is) rfl rfl rfl); (case c5 => decide); (case kB => exact locs rfl); (case c2 => exact rfl); (case c3 => exact rfl); (case c4 => exact rfl); k_whole; intro g' L' h' FG' F' N' B' X' T'; (try dsimp only); (try k_fold))
  k_steps
  (with_reducible rename Fr g' L' _ _ => F1)
  (with_reducible rename News g' L' _ _ => N1)
  rename_i tkz c0 h00 la0 h01 le0 h1 lb0
  refine call_enumerate_list ⟨_, (N1 _ (.head _)).1, rfl, _, rfl⟩ fun h2 e2 it2 sz2 k2 => ?_
  dsimp only at e2 it2 sz2 k2 ⊢
  refine wpAny_pyIter_enum e2 ?_
  have hle0 : le0 < h1.objs.size := Heap.lt_size (N1 _ (.head _)).1
  have hL1 : L' < h1.objs.size := F1.ns.lt
  have F2 : Fr g' L' h2 _ := ⟨F1.ns.at' fun o e => k2 _ o e, fun b o e => k2 b o (F1.keep b o e), F1.above⟩
  have N2 : News g' L' h2 ((c0, listOf #[] 0) :: news) := fun p hp => ⟨k2 _ _ (N1 p (.tail _ hp)).1, (N1 p (.tail _ hp)).2⟩
  have nolo : ∀ b, h1.objs.size ≤ b → g'.get? b = none := fun b hb => Heap.get?_none_of_le (Nat.le_trans F1.above (Nat.le_trans (Nat.le_of_lt hL1) hb))
  have nfp : ∀ p ∈ (c0, listOf #[] 0) :: news, p.1 ∉ [h1.objs.size + 1, h1.objs.size, le0] := fun p hp hm => by
    have h9 : @LT.lt Nat _ p.1 h1.objs.size := Heap.lt_size (N1 p (.tail _ hp)).1
    simp only [List.mem_cons, List.not_mem_nil, or_false] at hm
    rcases hm with e | e | e
    · exact absurd h9 (by rw [e]; exact Nat.not_lt.mpr (Nat.le_succ _))
    · exact absurd h9 (by rw [e]; exact Nat.lt_irrefl _)
    · rcases List.mem_cons.mp hp with rfl | hp
      · exact absurd e (Nat.ne_of_lt lb0.1)
      · exact absurd e (Nat.ne_of_lt (lt_of_all lb0.2 p hp))
  generalize hits : (#[Value.int 3 _, Value.int 0 _, Value.int 21 _, Value.int 17 _, Value.int 4 _, Value.int 160 _, Value.int 3 _, Value.int 85 _, Value.int 6 _, Value.int 122 _, Value.int 50 _] : Array Value) = its at N1
  have hI : IntsAre its.toList cellBase := by rw [← hits]; exact .cons _ _ (.cons _ _ (.cons _ _ (.cons _ _ (.cons _ _ (.cons _ _ (.cons _ _ (.cons _ _ (.cons _ _ (.cons _ _ (.cons _ _ .nil))))))))))
  have hsz : its.size = 11 := by rw [← hits]; rfl
  have hl2 : h2.IsList le0 its := ⟨_, k2 _ _ (N1 _ (.head _)).1, rfl, _, rfl⟩
  have W := fun (A' : Around) (hA : A'.handled = none) => WalksT.enumerate (prog := PySem.Challenge.rw_wu0081_01.row.prog) (w := w) hA (h1.objs.size + 1) h1.objs.size le0 (Nat.succ_ne_self _) (Nat.ne_of_lt (Nat.lt_succ_of_lt hle0)) (Nat.ne_of_lt hle0) its
  rw [hsz] at W
  refine for_KT2 (W _ rfl) rfl (fun i h st => enum_objs st) (fun i vals hv => let ⟨t, x, _, e⟩ := hv; ⟨_, _, e⟩)
    (fun i m' nw' g9 => m' "script" = some (.ref l) ∧ m' "cells" = some (.ref c0) ∧ g9 = s.gens ∧ ∃ cs nc, nw' = (c0, listOf cs nc) :: news ∧ IntsAre cs.toList ((cellsOf ns).take i)) rfl rfl rfl (by
      intro hm
      simp only [List.mem_cons, List.not_mem_nil, or_false] at hm
      rcases hm with e | e | e
      · exact absurd hL1 (by rw [show L' = _ from e]; exact Nat.not_lt.mpr (Nat.le_succ _))
      · exact absurd hL1 (by rw [show L' = _ from e]; exact Nat.lt_irrefl _)
      · exact (N1 _ (.head _)).2.1 e.symm) (fun b hb => by
      simp only [List.mem_cons, List.not_mem_nil, or_false] at hb
      rcases hb with rfl | rfl | rfl
      · exact nolo _ (Nat.le_succ _)
      · exact nolo _ (Nat.le_refl _)
      · exact (N1 _ (.head _)).2.2) ⟨⟨_, e2⟩, it2, hl2⟩ F2 N2 nfp ⟨rfl, rfl, rfl, exI2 #[] 0 ⟨rfl, .nil⟩⟩ ?_ ?_
  · intro i x y m1 nw1 h3 g9 tk9 own hi hP hJ eo F3 N3 hn3 S9 hS9 E9
    refine absG fun G99 k99 => ?_
    obtain ⟨t9, z9, hz9, e9⟩ := hP
    have e9' : x = .int i t9 ∧ y = z9 := by simpa using congrArg Array.toList e9
    obtain ⟨rfl, rfl⟩ := e9'
    refine andE4 hJ fun j1 j2 e9z0 h9z0 => ?_
    refine exE2 h9z0 fun cs9 nc9 h9z1 => ?_
    refine andE2 h9z1 fun e9z1 j3 => ?_
    clear h9z1 h9z0 hJ
    subst e9z0
    subst e9z1
    have hib : cellBase[i]? = some cellBase[i] := List.getElem?_eq_getElem hi
    obtain ⟨t8, hy8⟩ := hI.get i _ hib
    have hy : y = .int cellBase[i] t8 := by
      have h8 : its.toList[i]? = some y := by simpa using hz9
      rw [h8] at hy8; exact Option.some.inj hy8
    subst hy
    refine k99.go ?_
    clear k99 G99
    rw [known2 j1 j2] at F3
    have hl' : g'.IsList l vs.toArray := hl.at fun o e => FG'.keep l o e
    have hoc : ∀ p ∈ own ++ news, p.1 ≠ c0 := fun p hp e => by
      rcases List.mem_append.mp hp with hp | hp
      · exact hn3 _ (.head _) (by show c0 ∈ _; rw [← eo, ← e]; exact List.mem_map_of_mem (f := fun q : Addr × Obj => q.1) hp)
      · exact absurd e (Nat.ne_of_lt (la0 p hp))
    replace N3 : News g' L' h3 ((c0, listOf cs9 nc9) :: (own ++ news)) := fun p hp => N3 p (by
      simp only [List.mem_cons, List.mem_append] at hp ⊢
      rcases hp with h | h | h <;> simp only [h, true_or, or_true])
    generalize hB9 : cellBase[i] = b9 at F3
    clear F2 N2 F1 N1 W
    k_steps
    all_goals (with_reducible rename Fr g' _ _ _ => F4)
    all_goals (with_reducible rename News g' _ _ _ => N4)
    all_goals refine hS9 _ ⟨_, _, (c0, listOf (cs9.push _) _) :: news, _, _, rfl, F4, fun p hp => by
      rcases List.mem_append.mp hp with hp | hp
      · exact N4 p (.tail _ (List.mem_append_left _ hp))
      · rcases List.mem_cons.mp hp with rfl | hp
        · exact N4 _ (.head _)
        · exact N4 p (.tail _ (List.mem_append_right _ hp)), fun p hp => ?_, rfl, rfl, rfl, _, _, rfl, ?_⟩
    all_goals first
      | (show p.1 ∉ own.map (·.1)
         rw [eo]
         rcases List.mem_cons.mp hp with rfl | hp
         · exact hn3 (c0, listOf cs9 nc9) (.head _)
         · exact hn3 _ (.tail _ hp))
      | (rw [cells_step i hi, hB9]
         refine intsAre_push' j3 ?_
         rename_i hlt9
         unfold cellAt
         first | (rw [if_pos (by omega)]; simp) | (rw [if_neg (by omega)]))
  · intro m1 nw1 h3 g9 tk9 hJ F3 N3
    refine absG fun G99 k99 => ?_
    refine andE4 hJ fun j1 j2 e9z0 h9z0 => ?_
    refine exE2 h9z0 fun cs9 nc9 h9z1 => ?_
    refine andE2 h9z1 fun e9z1 j3 => ?_
    clear h9z1 h9z0 hJ
    subst e9z0
    subst e9z1
    refine k99.go ?_
    clear k99 G99
    rw [known2 j1 j2] at F3
    k_steps
    rename_i kF kN kT kX
    exact hret _ _ _ _ _ kF kN (by simpa [cellsOf, cellBase] using j3) (fun p hp => la0 p hp)
end Mine
end

theorem Mine.rs8 {M : Model} {A : Around} {Q : Nat → Shared → Prop} {E : Value → Shared → Prop} {s : Shared} (h : wpAny M A (pure 1) Q E s) : wpAny M A (pure 1) Q E s := by first | (walk1; fail) | exact h
section
open PySem PySem.W PyProof.Rows PySem.Calls
set_option Elab.async false
set_option linter.unusedVariables false
set_option linter.unusedSimpArgs false
set_option maxRecDepth 100000
set_option maxHeartbeats 2000000
set_option pp.maxSteps 1200
set_option pp.deepTerms false
namespace Mine
set_option maxHeartbeats 8000000
def cellL (f0 f1 : Nat → List Nat) (prev : List (List Bool)) (row : List Bool) (i : Nat) : Bool := !((f0 i).any (fun h => (prev.getD h []).getD row.length false) || (f1 row.length).any (fun h => row.getD h false))
def rowN (f0 f1 : Nat → List Nat) (prev : List (List Bool)) (i : Nat) : Nat → List Bool
  | 0 => []
  | j + 1 => rowN f0 f1 prev i j ++ [cellL f0 f1 prev (rowN f0 f1 prev i j) i]
def lostN (f0 f1 : Nat → List Nat) : Nat → List (List Bool)
  | 0 => []
  | i + 1 => lostN f0 f1 i ++ [rowN f0 f1 (lostN f0 f1 i) i 6]
theorem rowN_len (f0 f1 : Nat → List Nat) (prev : List (List Bool)) (i : Nat) : ∀ j, (rowN f0 f1 prev i j).length = j
  | 0 => rfl
  | j + 1 => by rw [rowN, List.length_append, rowN_len f0 f1 prev i j]; rfl
theorem lostN_len (f0 f1 : Nat → List Nat) : ∀ i, (lostN f0 f1 i).length = i
  | 0 => rfl
  | i + 1 => by rw [lostN, List.length_append, lostN_len f0 f1 i]; rfl
theorem lostN_row (f0 f1 : Nat → List Nat) : ∀ i, ∀ r ∈ lostN f0 f1 i, r.length = 6
  | 0, _, h => nomatch h
  | i + 1, r, h => by
    rw [lostN] at h
    rcases List.mem_append.mp h with h | h
    · exact lostN_row f0 f1 i r h
    · rw [List.mem_singleton.mp h, rowN_len]
def BoolRows (led : List (Addr × Obj)) (rs : List Addr) (ll : List (List Bool)) : Prop := rs.length = ll.length ∧ ∀ i a, rs[i]? = some a → ∃ vs n, (a, listOf (List.toArray vs) n) ∈ led ∧ LSm.BoolsAre vs (ll.getD i [])
local macro_rules | `(tactic| walk_at $s) => if s.getString == "subscriptTail" then `(tactic| walk_at "own item") else if s.getString == "CompSrc" then `(tactic| (k_here; k_dflt ((refine LCg.CompSrc.ledger (by rfl) (by k_asm) (by k_asm) (by repeat (first | with_reducible_and_instances assumption | refine List.Mem.tail _ ?_)) (by assumption) ?_); intro g'))) else Lean.Macro.throwUnsupported
theorem bools_of {g : Nat → Bool} : ∀ (l : List Nat) (ys : List Value), ys.length = l.length → (∀ (k : Nat) (y : Value), ys[k]? = some y → y = .bool (g (l.getD k 0))) → LSm.BoolsAre ys (l.map g)
  | [], [], _, _ => .nil
  | [], _ :: _, h, _ => by simp at h
  | _ :: _, [], h, _ => by simp at h
  | a :: l, y :: ys, h, he => by
    have h0 := he 0 y rfl
    simp only [List.getD_cons_zero] at h0
    subst h0
    exact .cons _ (bools_of l ys (by simpa using h) fun k z hz => by simpa using he (k + 1) z (by simpa using hz))
theorem bools_snoc {led : List (Addr × Obj)} {rs : List Addr} {ll : List (List Bool)} {D : Addr} {ys : List Value} {n : Nat} {b : List Bool} (h : BoolRows led rs ll) (hy : LSm.BoolsAre ys b) : BoolRows ((D, listOf ys.toArray n) :: led) (rs ++ [D]) (ll ++ [b]) := ⟨by simp [h.1], fun i a e => by
  rcases Nat.lt_trichotomy i rs.length with h1 | h1 | h1
  · rw [List.getElem?_append_left h1] at e
    obtain ⟨vs, n, h2, h3⟩ := h.2 i a e
    refine ⟨vs, n, .tail _ h2, ?_⟩
    rw [List.getD_eq_getElem?_getD, List.getElem?_append_left (by rw [← h.1]; exact h1), ← List.getD_eq_getElem?_getD]
    exact h3
  · subst h1
    rw [List.getElem?_append_right (Nat.le_refl _)] at e
    simp at e
    subst e
    refine ⟨_, n, .head _, ?_⟩
    rw [List.getD_eq_getElem?_getD, List.getElem?_append_right (by rw [h.1]; exact Nat.le_refl _), h.1]
    simpa using hy
  · rw [List.getElem?_eq_none (by simp; omega)] at e; cases e⟩
theorem lost_ok {w : World} {mean : ExcName → Option Value} {mg mb : Str → Option Value} : ∀ (dp un : Nat) (gd : Option (List Code)) (cn : Str) (cs : Scope) (a : Addr) (ccd : Value) (cl : List (Str × Addr)) (outer : List Env) (A₀ : Around) (base h₀ : Heap) (L : Addr) (m : Str → Option Value) (news : List (Addr × Obj)) (s : Shared) (Q E : Value → Shared → Prop) (W0 A0 A1 : Addr) (nW n0 n1 : Nat) (as0 as1 : List Addr) (f0 f1 : Nat → List Nat)
    (hW : (W0, listOf #[.ref A0, .ref A1] nW) ∈ news) (hA0 : (A0, listOf (as0.map Value.ref).toArray n0) ∈ news) (hA1 : (A1, listOf (as1.map Value.ref).toArray n1) ∈ news)
    (hl0 : as0.length = 6) (hl1 : as1.length = 6) (hR0 : RowsAt news as0 fun i => (f0 i).map fun (h : Nat) => (h : Int)) (hR1 : RowsAt news as1 fun i => (f1 i).map fun (h : Nat) => (h : Int))
    (hf0 : ∀ i, ∀ h ∈ f0 i, h < i) (hf1 : ∀ i, ∀ h ∈ f1 i, h < i) (hn0 : ∀ i, (f0 i).length ≤ i) (hn1 : ∀ i, (f1 i).length ≤ i),
    ∀ (hB : Below A₀ base outer h₀) (hF : Fr h₀ L s.heap m) (hX : (Mine.top.heap_1 w.params).In h₀) (hN : News h₀ L s.heap news) (hT : Top topProg (looseW Mine.top.view_1 [Str.ofString "_safe_string", Str.ofString "_Accumulator"] ++ List.map (fun x => x.name) (recsOf Mine.top.view_1) ++ List.map (fun x => x.fst) (litsOf Mine.top.view_1) ++ List.map (fun x => x.name) (clssOf Mine.top.view_1 (looseW Mine.top.view_1 [Str.ofString "_safe_string", Str.ofString "_Accumulator"]))) mean mg mb h₀) (hk : cs.kind = .function) (hd : dp + 20 < recursionLimit) (hu : un + 600 < cLine)
    (hret : ∀ r rs n fr h' tk', Fr h₀ L h' m → News h₀ L h' ((r, listOf (rs.map Value.ref).toArray n) :: (fr ++ news)) → BoolRows fr rs (lostN f0 f1 6) → (∀ p ∈ fr, p.1 ≠ r) → (∀ p ∈ news, p.1 ≠ r) → (∀ p ∈ fr, ∀ x ∈ news, x.1 ≠ p.1) → Q (.ref r) { s with heap := h', toks := tk' }),
    wpAny (model PySem.Challenge.rw_wu0081_01.row.prog w) (ktrTop dp un gd cn cs L a ccd cl outer) (call (.ref 307) [.ref W0]) Q E s := by
  k_fill
  intro dp un gd cn cs a ccd cl outer A₀ base h₀ L m news s Q E W0 A0 A1 nW n0 n1 as0 as1 f0 f1 hW hA0 hA1 hl0 hl1 hR0 hR1 hf0 hf1 hn0 hn1 B F X N T hk hd hu hret
  refine wpAny_call ?_
  k_dflt (refine' code_defC ?k1 ?k2 ?k3 ?k4 ?k5 ?kA ?kF ?kK ?k6 ?k7 ?k8 ?k9 ?kB ?kD ?_ ?c2 ?c3 ?c4; (case kA => exact rfl); (case kF => exact rfl); (case kK => assumption); (case k1 => k_asm); (case k2 => k_asm); (case k3 => k_asm); (case k4 => k_asm); (case k5 => k_asm); (case k6 => k_is); (case k7 => k_is); (case k8 => ktr_room); (case k9 => first | exact BindsTo.of_eq rfl | exact binds_K (by k_in) rfl (by k_is) rfl rfl rfl); (case kB => exact rfl); (case kD => decide +kernel); (case c2 => exact rfl); (case c3 => exact rfl); (case c4 => exact rfl); k_whole; intro g' L' h' tk' cells' FG' F' N' Y' B' X' T' l1; (try k_lt l1); k_cells Y'; (try simp only [List.cons_append, List.nil_append] at N'); (try dsimp only); (try k_fold))
  have hc1 : ∀ p ∈ news, p.1 ≠ L' + 1 := fun p hp => Nat.ne_of_lt (Nat.lt_succ_of_lt (l1 p hp))
  have hc2 : ∀ p ∈ news, p.1 ≠ L' + 1 + 1 := fun p hp => Nat.ne_of_lt (Nat.lt_succ_of_lt (Nat.lt_succ_of_lt (l1 p hp)))
  k_steps
  (with_reducible rename _ ∧ _ => lp)
  (with_reducible rename Fr g' L' _ _ => F1)
  (with_reducible rename News g' L' _ _ => N1)
  rename_i lv _ _ oL hdL
  have hA0m : (A0, listOf (as0.map Value.ref).toArray n0) ∈ news := hA0
  refine pyIter_list_K (l := A0) (its := (as0.map Value.ref).toArray) F1 N1 ⟨_, (N1 (A0, listOf (as0.map Value.ref).toArray n0) (.tail _ (.tail _ (.tail _ hA0)))).1, rfl, _, rfl⟩ (fun I h4 F4 N4 nI lI zI iI itI => ?_)
  refine for_KL (I := I) (ax := A0) (its := (as0.map Value.ref).toArray) (lo := listOf (as0.map Value.ref).toArray n0) rfl iI rfl ⟨_, rfl⟩ (fun i m' nw' g9 => g9 = s.gens ∧ m' "ways" = some (.ref W0) ∧ ∃ (oj : Obj) (v0 : Option Value) (rs : List Addr) (nl : Nat) (news' : List (Addr × Obj)),
      nw' = (lv, listOf (rs.map Value.ref).toArray nl) :: (L' + 1 + 1, oj) :: (L' + 1, oL) :: news' ∧ oj.data = .cell v0 ∧ BoolRows news' rs (lostN f0 f1 i) ∧ Fresh (fun fr => BoolRows fr rs (lostN f0 f1 i)) news news news' ∧ (∀ p ∈ news', p.1 ≠ lv) ∧ (∀ p ∈ news', p.1 ≠ L' + 1 + 1)) (fun i m nw g h => by
        refine absG fun G99 k99 => ?_
        obtain ⟨_, _, _, _, _, _, news', rfl, _, _, hG, _⟩ := h
        refine k99.go ?_
        clear k99 G99
        exact .tail _ (.tail _ (.tail _ (hG.sub _ hA0))))
      lI zI itI F4 N4 nI ⟨rfl, rfl, exI5 _ _ [] 0 news ⟨rfl, by assumption, ⟨rfl, fun i a h => by simp at h⟩, Fresh.start ⟨rfl, fun i a h => by simp at h⟩, fun p hp => Nat.ne_of_lt (lt_of_all lp.2.2 p hp), hc2⟩⟩ ?_ ?_
  · intro i v1 m1 nw1 h5 g5 tk5 o5 hi9 hv9 hJ F5 N5 hn5 S9 hS9 E9
    refine absG fun G99 k99 => ?_
    refine andE3 hJ fun e9z0 j1 h9z0 => ?_
    refine exE5 h9z0 fun oj v0 rs nl news' h9z1 => ?_
    refine andE6 h9z1 fun e9z1 jd jR jG jn1 jn2 => ?_
    clear h9z1 h9z0 hJ
    subst e9z0
    subst e9z1
    rw [known1w j1] at F5
    have hi6 : i < 6 := by simpa [hl0] using hi9
    obtain ⟨a0, ha0⟩ : ∃ a0, as0[i]? = some a0 := ⟨_, List.getElem?_eq_getElem (by omega)⟩
    have e1 : v1 = .ref a0 := by simpa [ha0] using hv9.symm
    subst e1
    obtain ⟨vs0, m0, hm0, hi0⟩ := hR0 i a0 ha0
    refine k99.go ?_
    clear k99 G99
    have hA1' := jG.sub _ hA1
    have hW' := jG.sub _ hW
    have hm0' := jG.sub _ hm0
    have i1 : @Ne Nat lv I := hn5 _ (.head _)
    have i2 : @Ne Nat (L' + 1 + 1) I := hn5 _ (.tail _ (.head _))
    k_steps
    (with_reducible rename _ ∧ _ => lr)
    (with_reducible rename Fr g' L' _ _ => F6)
    (with_reducible rename News g' L' _ _ => N6)
    rename_i ra _ _ oR hdR
    have nra : ∀ p ∈ news', p.1 ≠ ra := fun p hp => Nat.ne_of_lt (lt_of_all lr.2.2.2.2 p hp)
    have q1 : @Ne Nat I ra := Nat.ne_of_lt lr.1
    have q2 : @Ne Nat lv ra := Nat.ne_of_lt lr.2.1
    refine pyIter_list_K (l := A1) (its := (as1.map Value.ref).toArray) F6 N6 ⟨_, (N6 (A1, listOf (as1.map Value.ref).toArray n1) (.tail _ (.tail _ (.tail _ (.tail _ (.tail _ hA1')))))).1, rfl, _, rfl⟩ (fun I2 h7 F7 N7 nI2 lI2 zI2 iI2 itI2 => ?_)
    refine for_KL (I := I2) (ax := A1) (its := (as1.map Value.ref).toArray) (lo := listOf (as1.map Value.ref).toArray n1) rfl iI2 rfl ⟨_, rfl⟩ (fun j m' nw' g9 => g9 = s.gens ∧ m' "ways" = some (.ref W0) ∧ m' "way" = some (.ref a0) ∧ ∃ (rv : List Value) (nr : Nat),
      nw' = (ra, listOf rv.toArray nr) :: (I, o5) :: (lv, listOf (rs.map Value.ref).toArray nl) :: (L' + 1 + 1, oR) :: (L' + 1, oL) :: news' ∧ LSm.BoolsAre rv (rowN f0 f1 (lostN f0 f1 i) i j)) (fun j m nw g h => by
        refine absG fun G99 k99 => ?_
        obtain ⟨_, _, _, _, _, rfl, _⟩ := h
        refine k99.go ?_
        clear k99 G99
        exact .tail _ (.tail _ (.tail _ (.tail _ (.tail _ hA1')))))
      lI2 zI2 itI2 F7 N7 nI2 ⟨rfl, rfl, rfl, exI2 [] 0 ⟨rfl, .nil⟩⟩ ?_ ?_
    · intro j v2 m2 nw2 h8 g8 tk8 o8 hj9 hv8 hJ8 F8 N8 hn8 S9 hS9 E9
      refine absG fun G99 k99 => ?_
      refine andE4 hJ8 fun e9z0 k1 k2 h9z0 => ?_
      refine exE2 h9z0 fun rv nr h9z1 => ?_
      refine andE2 h9z1 fun e9z1 kb => ?_
      clear h9z1 h9z0 hJ8
      subst e9z0
      subst e9z1
      rw [known2 k1 k2] at F8
      have hj6 : j < 6 := by simpa [hl1] using hj9
      obtain ⟨a1, ha1⟩ : ∃ a1, as1[j]? = some a1 := ⟨_, List.getElem?_eq_getElem (by omega)⟩
      have e1 : v2 = .ref a1 := by simpa [ha1] using hv8.symm
      subst e1
      obtain ⟨vs1, m1', hm1, hi1⟩ := hR1 j a1 ha1
      refine k99.go ?_
      clear k99 G99
      have hm1' := jG.sub _ hm1
      have rl := rowN_len f0 f1 (lostN f0 f1 i) i j
      generalize hrow : rowN f0 f1 (lostN f0 f1 i) i j = row at kb rl
      have q3 : @Ne Nat ra I2 := hn8 _ (.head _)
      have q4 : @Ne Nat I I2 := hn8 _ (.tail _ (.head _))
      have hs0 : vs0.size ≤ sizeLine := by
        have h1 := hi0.length
        have h2 := hn0 i
        rw [List.length_map] at h1
        have h3 : vs0.size = (f0 i).length := by simpa using h1
        rw [PySem.sizeLine_eq]; omega
      have hs1 : vs1.size ≤ sizeLine := by
        have h1 := hi1.length
        have h2 := hn1 j
        rw [List.length_map] at h1
        have h3 : vs1.size = (f1 j).length := by simpa using h1
        rw [PySem.sizeLine_eq]; omega
      k_steps
      refine comp_el (fun k y => y = Value.bool (((lostN f0 f1 i).getD ((f0 i).getD k 0) []).getD row.length false)) (fun k v I' oI C oC D m9 ys h9 tk9 E9 hk hv hC hx F9 N9 off ne => ?_) (fun ys hyl hye => ?_)
      · refine absG fun G99 k99 => ?_
        obtain ⟨t9, h9v, hkf⟩ : ∃ t9, v = .int (((f0 i).getD k 0 : Nat) : Int) t9 ∧ (f0 i).getD k 0 ∈ f0 i := by
          have hlen : vs0.size = (f0 i).length := by have := hi0.length; simpa using this
          have hkl : k < (f0 i).length := by omega
          refine absG fun G99 k99 => ?_
          obtain ⟨t, ht⟩ := hi0.get k (((f0 i).getD k 0 : Nat) : Int) (by simp [List.getD_eq_getElem?_getD, hkl])
          refine k99.go ?_
          clear k99 G99
          exact ⟨t, by have h5 : vs0.toList[k]? = some v := by simpa using hv
                       rw [h5] at ht; exact Option.some.inj ht, by rw [List.getD_eq_getElem?_getD, List.getElem?_eq_getElem hkl]; exact List.getElem_mem hkl⟩
        subst h9v
        refine k99.go ?_
        clear k99 G99
        generalize (f0 i).getD k 0 = hh at hkf hx ⊢
        have hhi := hf0 i hh hkf
        have hrl : rs.length = i := jR.1.trans (lostN_len f0 f1 i)
        refine absG fun G99 k99 => ?_
        obtain ⟨rh, hrh⟩ : ∃ rh, rs[hh]? = some rh := ⟨_, List.getElem?_eq_getElem (by omega)⟩
        obtain ⟨vh, mh, hmh, hbh⟩ := jR.2 hh rh hrh
        refine k99.go ?_
        clear k99 G99
        have hx1 : (rs.map Value.ref).toArray[((hh : Nat) : Int).toNat]? = some (.ref rh) := by simp [hrh]
        have hbl : ((lostN f0 f1 i).getD hh []).length = 6 := lostN_row f0 f1 i _ (by
          rw [List.getD_eq_getElem?_getD, List.getElem?_eq_getElem (by rw [lostN_len]; exact hhi)]; exact List.getElem_mem _)
        have hx2 : vh.toArray[((row.length : Nat) : Int).toNat]? = some (.bool (((lostN f0 f1 i).getD hh []).getD row.length false)) := by
          have := kbo_at hbh row.length (by omega)
          simpa using this
        k_steps
        (with_reducible rename Fr g' L' _ _ => F10)
        (with_reducible rename News g' L' _ _ => N10)
        exact LCg.CompEnd.intro F10 N10 _ (fun p hp => hp) off (.inr ⟨_, (by repeat (first | with_reducible_and_instances assumption | refine List.Mem.tail _ ?_)), rfl, _, rfl⟩) ⟨rfl, rfl⟩
      have hb1 : LSm.BoolsAre ys ((f0 i).map fun h => ((lostN f0 f1 i).getD h []).getD row.length false) := bools_of (g := fun h => ((lostN f0 f1 i).getD h []).getD row.length false) _ _ (by rw [hyl]; simpa using hi0.length) hye
      k_steps
      refine comp_el (fun k y => y = Value.bool (row.getD ((f1 j).getD k 0) false)) (fun k v I' oI C oC D m9 ys2 h9 tk9 E9 hk hv hC hx F9 N9 off ne => ?_) (fun ys2 hyl2 hye2 => ?_)
      · refine absG fun G99 k99 => ?_
        obtain ⟨t9, h9v, hkf⟩ : ∃ t9, v = .int (((f1 j).getD k 0 : Nat) : Int) t9 ∧ (f1 j).getD k 0 ∈ f1 j := by
          have hlen : vs1.size = (f1 j).length := by have := hi1.length; simpa using this
          have hkl : k < (f1 j).length := by omega
          refine absG fun G99 k99 => ?_
          obtain ⟨t, ht⟩ := hi1.get k (((f1 j).getD k 0 : Nat) : Int) (by simp [List.getD_eq_getElem?_getD, hkl])
          refine k99.go ?_
          clear k99 G99
          exact ⟨t, by have h5 : vs1.toList[k]? = some v := by simpa using hv
                       rw [h5] at ht; exact Option.some.inj ht, by rw [List.getD_eq_getElem?_getD, List.getElem?_eq_getElem hkl]; exact List.getElem_mem hkl⟩
        subst h9v
        refine k99.go ?_
        clear k99 G99
        generalize (f1 j).getD k 0 = hh at hkf hx ⊢
        have hhi := hf1 j hh hkf
        have hx1 : rv.toArray[((hh : Nat) : Int).toNat]? = some (.bool (row.getD hh false)) := by
          have := kbo_at kb hh (by omega)
          simpa using this
        k_steps
        (with_reducible rename Fr g' L' _ _ => F10)
        (with_reducible rename News g' L' _ _ => N10)
        exact LCg.CompEnd.intro F10 N10 _ (fun p hp => hp) off (.inr ⟨_, (by repeat (first | with_reducible_and_instances assumption | refine List.Mem.tail _ ?_)), rfl, _, rfl⟩) ⟨rfl, rfl⟩
      have hb2 : LSm.BoolsAre ys2 ((f1 j).map fun h => row.getD h false) := bools_of (g := fun h => row.getD h false) _ _ (by rw [hyl2]; simpa using hi1.length) hye2
      k_steps
      (with_reducible rename Fr g' L' _ _ => F11)
      (with_reducible rename News g' L' _ _ => N11)
      (with_reducible rename _ ∧ _ => o2)
      (with_reducible rename _ ∧ _ => o1)
      refine kmk_add_lit F11 N11 ⟨_, (N11 _ (.tail _ (.head _))).1, rfl, _, rfl⟩ ⟨_, (N11 _ (.head _)).1, rfl, _, rfl⟩ (zs := ys ++ ys2) (by simp) (fun D3 h12 F12 N12 l12 => ?_) (by
        have h1 := hb1.length
        have h2 := hb2.length
        rw [List.length_map] at h1 h2
        have h3 := hn0 i
        have h4 := hn1 j
        rw [PySem.sizeLine_eq]; simp only [List.toList_toArray]; omega)
      ke_norm
      have q5 : @Ne Nat D3 ra := Nat.ne_of_gt (l12 (ra, listOf rv.toArray nr) (.tail _ (.tail _ (.tail _ (.head _)))))
      refine notin_bools (N12 _ (.head _)).1 (kbo_app hb1 hb2) (by ktr_units) ?_
      ke_norm
      have hrvl : rv.length = row.length := kb.length
      k_steps
      (with_reducible rename Fr g' L' _ _ => F13)
      (with_reducible rename News g' L' _ _ => N13)
      have ec : (!(List.map (fun h => ((lostN f0 f1 i).getD h []).getD row.length false) (f0 i) ++ List.map (fun h => row.getD h false) (f1 j)).any id) = cellL f0 f1 (lostN f0 f1 i) row i := by
        simp [cellL, List.any_append, List.any_map, rl, Function.comp_def]
      rw [ec, show rv.toArray.push (Value.bool (cellL f0 f1 (lostN f0 f1 i) row i)) = (rv ++ [Value.bool (cellL f0 f1 (lostN f0 f1 i) row i)]).toArray by simp] at N13
      refine hS9 _ (stepK (news := (ra, listOf (rv ++ [Value.bool (cellL f0 f1 (lostN f0 f1 i) row i)]).toArray (nr + 1)) :: (I, o5) :: (lv, listOf (rs.map Value.ref).toArray nl) :: (L' + 1 + 1, oR) :: (L' + 1, oL) :: news') F13 (fun p hp => N13 p ?_) (fun p hp => ?_) ⟨rfl, rfl, rfl, exI2 _ (nr + 1) ⟨rfl, ?_⟩⟩)
      · revert p; exact (allC (mAt 3) (fun p hp => mTl 4 hp))
      · revert p; exact (allC (q3) (fun p hp => hn8 p (.tail _ hp)))
      · rw [rowN, hrow]; exact kbo_app kb (.cons _ .nil)
    · intro m2 nw2 h8 g8 tk8 hJ8 F8 N8
      refine absG fun G99 k99 => ?_
      refine andE4 hJ8 fun e9z0 k1 k2 h9z0 => ?_
      refine exE2 h9z0 fun rv nr h9z1 => ?_
      refine andE2 h9z1 fun e9z1 kb => ?_
      clear h9z1 h9z0 hJ8
      subst e9z0
      subst e9z1
      refine k99.go ?_
      clear k99 G99
      rw [known2 k1 k2] at F8
      rw [show (as1.map Value.ref).toArray.size = 6 by simp [hl1]] at kb
      have q6 : @Ne Nat ra lv := fun e => q2 e.symm
      have hrsl : rs.length = i := jR.1.trans (lostN_len f0 f1 i)
      k_steps
      (with_reducible rename Fr g' L' _ _ => F13)
      (with_reducible rename News g' L' _ _ => N13)
      rw [show (rs.map Value.ref).toArray.push (.ref ra) = ((rs ++ [ra]).map Value.ref).toArray by simp] at N13
      refine hS9 _ (stepK (news := (lv, listOf ((rs ++ [ra]).map Value.ref).toArray (nl + 1)) :: (L' + 1 + 1, oR) :: (L' + 1, oL) :: (ra, listOf rv.toArray nr) :: news') F13 (fun p hp => N13 p ?_) (fun p hp => ?_) ⟨rfl, rfl, exI5 oR _ (rs ++ [ra]) (nl + 1) ((ra, listOf rv.toArray nr) :: news') ⟨rfl, hdR, bools_snoc jR kb, jG.cons (fun fr hfr => bools_snoc hfr kb) (fun x hx => nra x (jG.sub x hx)), fun p hp => ?_, fun p hp => ?_⟩⟩)
      · revert p; exact (allC (.tail _ (.head _)) (allC (.tail _ (.tail _ (.head _))) (allC (mAt 3) (allC (mAt 4) (allC (.head _) (fun p hp => (mTl 5 hp)))))))
      · revert p; exact (allC (i1) (allC (i2) (allC (hn5 _ (.tail _ (.tail _ (.head _)))) (allC (fun e => q1 e.symm) (fun p hp => (hn5 _ (mTl 3 hp)))))))
      · revert p; exact (allC (q6) (fun p hp => jn1 p hp))
      · revert p; exact (allC (Nat.ne_of_gt lr.2.2.1) (fun p hp => jn2 p hp))
  · intro m1 nw1 h5 g5 tk5 hJ F5 N5
    refine absG fun G99 k99 => ?_
    refine andE3 hJ fun e9z0 j1 h9z0 => ?_
    refine exE5 h9z0 fun oj v0 rs nl news' h9z1 => ?_
    refine andE6 h9z1 fun e9z1 jd jR jG jn1 jn2 => ?_
    clear h9z1 h9z0 hJ
    subst e9z0
    subst e9z1
    refine k99.go ?_
    clear k99 G99
    rw [known1w j1] at F5
    rw [show (as0.map Value.ref).toArray.size = 6 by simp [hl0]] at jR jG
    k_steps
    (with_reducible rename Fr h₀ L _ m => F8)
    (with_reducible rename News h₀ L _ _ => N8)
    refine absG fun G99 k99 => ?_
    obtain ⟨fr, rfl, jR2, jB⟩ := jG
    refine k99.go ?_
    clear k99 G99
    exact hret _ rs nl fr _ _ F8 (fun p hp => N8 p (by
      revert p; exact (allC (.head _) (fun p hp => mTl 3 hp)))) jR2 (fun p hp => jn1 p (List.mem_append_left _ hp)) (fun p hp => jn1 p (List.mem_append_right _ hp)) jB
end Mine
end

section
open PySem PySem.W PyProof.Rows PySem.Calls
set_option Elab.async false
set_option linter.unusedVariables false
set_option linter.unusedSimpArgs false
set_option maxRecDepth 100000
set_option maxHeartbeats 2000000
set_option pp.maxSteps 1200
set_option pp.deepTerms false
namespace Mine
theorem isub_ok {w : World} {mean : ExcName → Option Value} {mg mb : Str → Option Value} : ∀ (dp un : Nat) (gd : Option (List Code)) (cn : Str) (cs : Scope) (a : Addr) (ccd : Value) (cl : List (Str × Addr)) (outer : List Env) (A₀ : Around) (base h₀ : Heap) (L : Addr) (m : Str → Option Value) (news : List (Addr × Obj)) (s : Shared) (Q E : Value → Shared → Prop) (x y : Int) (t u : Tok),
    ∀ (hB : Below A₀ base outer h₀) (hF : Fr h₀ L s.heap m) (hX : (Mine.top.heap_1 w.params).In h₀) (hN : News h₀ L s.heap news) (hT : Top topProg (looseW Mine.top.view_1 [Str.ofString "_safe_string", Str.ofString "_Accumulator"] ++ List.map (fun x => x.name) (recsOf Mine.top.view_1) ++ List.map (fun x => x.fst) (litsOf Mine.top.view_1) ++ List.map (fun x => x.name) (clssOf Mine.top.view_1 (looseW Mine.top.view_1 [Str.ofString "_safe_string", Str.ofString "_Accumulator"]))) mean mg mb h₀) (hk : cs.kind = .function) (hd : dp + 1 < recursionLimit) (hu : un + 8 < cLine) (hx : 0 ≤ x ∧ x < 1000) (hy : 0 ≤ y ∧ y < 1000)
    (hret : ∀ r h' tk', Fr h₀ L h' m → News h₀ L h' news → Q (.int (x - y) r) { s with heap := h', toks := tk' }),
    wpAny (model PySem.Challenge.rw_wu0081_01.row.prog w) (ktrTop dp un gd cn cs L a ccd cl outer) (call (.ref 271) [.int x t, .int y u]) Q E s := by
  k_fill
  intro dp un gd cn cs a ccd cl outer A₀ base h₀ L m news s Q E x y t u B F X N T hk hd hu hx hy hret
  refine wpAny_call ?_
  k_dflt (refine' code_def ?k1 ?k2 ?k3 ?k4 ?k5 ?kA ?kF ?kK ?k6 ?k7 ?k8 ?k9 ?kB ?_ ?c2 ?c3 ?c4 ?c5; (case kA => exact rfl); (case kF => exact rfl); (case kK => assumption); (case k1 => k_asm); (case k2 => k_asm); (case k3 => k_asm); (case k4 => k_asm); (case k5 => k_asm); (case k6 => k_is); (case k7 => k_is); (case k8 => ktr_room); (case k9 => first | exact BindsTo.of_eq rfl | exact binds_K (by k_in) rfl (by k_is) rfl rfl rfl); (case c5 => decide); (case kB => exact locs rfl); (case c2 => exact rfl); (case c3 => exact rfl); (case c4 => exact rfl); k_whole; intro g' L' h' FG' F' N' B' X' T'; (try dsimp only); (try k_fold))
  k_steps
  exact hret _ _ _ (by assumption) (by assumption)
theorem iadd_ok {w : World} {mean : ExcName → Option Value} {mg mb : Str → Option Value} : ∀ (dp un : Nat) (gd : Option (List Code)) (cn : Str) (cs : Scope) (a : Addr) (ccd : Value) (cl : List (Str × Addr)) (outer : List Env) (A₀ : Around) (base h₀ : Heap) (L : Addr) (m : Str → Option Value) (news : List (Addr × Obj)) (s : Shared) (Q E : Value → Shared → Prop) (x y : Int) (t u : Tok),
    ∀ (hB : Below A₀ base outer h₀) (hF : Fr h₀ L s.heap m) (hX : (Mine.top.heap_1 w.params).In h₀) (hN : News h₀ L s.heap news) (hT : Top topProg (looseW Mine.top.view_1 [Str.ofString "_safe_string", Str.ofString "_Accumulator"] ++ List.map (fun x => x.name) (recsOf Mine.top.view_1) ++ List.map (fun x => x.fst) (litsOf Mine.top.view_1) ++ List.map (fun x => x.name) (clssOf Mine.top.view_1 (looseW Mine.top.view_1 [Str.ofString "_safe_string", Str.ofString "_Accumulator"]))) mean mg mb h₀) (hk : cs.kind = .function) (hd : dp + 1 < recursionLimit) (hu : un + 8 < cLine) (hx : 0 ≤ x ∧ x < 1000) (hy : 0 ≤ y ∧ y < 1000)
    (hret : ∀ r h' tk', Fr h₀ L h' m → News h₀ L h' news → Q (.int (x + y) r) { s with heap := h', toks := tk' }),
    wpAny (model PySem.Challenge.rw_wu0081_01.row.prog w) (ktrTop dp un gd cn cs L a ccd cl outer) (call (.ref 243) [.int x t, .int y u]) Q E s := by
  k_fill
  intro dp un gd cn cs a ccd cl outer A₀ base h₀ L m news s Q E x y t u B F X N T hk hd hu hx hy hret
  refine wpAny_call ?_
  k_dflt (refine' code_def ?k1 ?k2 ?k3 ?k4 ?k5 ?kA ?kF ?kK ?k6 ?k7 ?k8 ?k9 ?kB ?_ ?c2 ?c3 ?c4 ?c5; (case kA => exact rfl); (case kF => exact rfl); (case kK => assumption); (case k1 => k_asm); (case k2 => k_asm); (case k3 => k_asm); (case k4 => k_asm); (case k5 => k_asm); (case k6 => k_is); (case k7 => k_is); (case k8 => ktr_room); (case k9 => first | exact BindsTo.of_eq rfl | exact binds_K (by k_in) rfl (by k_is) rfl rfl rfl); (case c5 => decide); (case kB => exact locs rfl); (case c2 => exact rfl); (case c3 => exact rfl); (case c4 => exact rfl); k_whole; intro g' L' h' FG' F' N' B' X' T'; (try dsimp only); (try k_fold))
  k_steps
  exact hret _ _ _ (by assumption) (by assumption)
theorem ior_ok {w : World} {mean : ExcName → Option Value} {mg mb : Str → Option Value} : ∀ (dp un : Nat) (gd : Option (List Code)) (cn : Str) (cs : Scope) (a : Addr) (ccd : Value) (cl : List (Str × Addr)) (outer : List Env) (A₀ : Around) (base h₀ : Heap) (L : Addr) (m : Str → Option Value) (news : List (Addr × Obj)) (s : Shared) (Q E : Value → Shared → Prop) (x y : Int) (t u : Tok),
    ∀ (hB : Below A₀ base outer h₀) (hF : Fr h₀ L s.heap m) (hX : (Mine.top.heap_1 w.params).In h₀) (hN : News h₀ L s.heap news) (hT : Top topProg (looseW Mine.top.view_1 [Str.ofString "_safe_string", Str.ofString "_Accumulator"] ++ List.map (fun x => x.name) (recsOf Mine.top.view_1) ++ List.map (fun x => x.fst) (litsOf Mine.top.view_1) ++ List.map (fun x => x.name) (clssOf Mine.top.view_1 (looseW Mine.top.view_1 [Str.ofString "_safe_string", Str.ofString "_Accumulator"]))) mean mg mb h₀) (hk : cs.kind = .function) (hd : dp + 1 < recursionLimit) (hu : un + 8 < cLine) (hx : 0 ≤ x ∧ x < 1000) (hy : 0 ≤ y ∧ y < 1000)
    (hret : ∀ r h' tk', Fr h₀ L h' m → News h₀ L h' news → Q (.int (Builtin.bitOr x y) r) { s with heap := h', toks := tk' }),
    wpAny (model PySem.Challenge.rw_wu0081_01.row.prog w) (ktrTop dp un gd cn cs L a ccd cl outer) (call (.ref 264) [.int x t, .int y u]) Q E s := by
  k_fill
  intro dp un gd cn cs a ccd cl outer A₀ base h₀ L m news s Q E x y t u B F X N T hk hd hu hx hy hret
  refine wpAny_call ?_
  k_dflt (refine' code_def ?k1 ?k2 ?k3 ?k4 ?k5 ?kA ?kF ?kK ?k6 ?k7 ?k8 ?k9 ?kB ?_ ?c2 ?c3 ?c4 ?c5; (case kA => exact rfl); (case kF => exact rfl); (case kK => assumption); (case k1 => k_asm); (case k2 => k_asm); (case k3 => k_asm); (case k4 => k_asm); (case k5 => k_asm); (case k6 => k_is); (case k7 => k_is); (case k8 => ktr_room); (case k9 => first | exact BindsTo.of_eq rfl | exact binds_K (by k_in) rfl (by k_is) rfl rfl rfl); (case c5 => decide); (case kB => exact locs rfl); (case c2 => exact rfl); (case c3 => exact rfl); (case c4 => exact rfl); k_whole; intro g' L' h' FG' F' N' B' X' T'; (try dsimp only); (try k_fold))
  k_steps
  exact hret _ _ _ (by assumption) (by assumption)
theorem iand_ok {w : World} {mean : ExcName → Option Value} {mg mb : Str → Option Value} : ∀ (dp un : Nat) (gd : Option (List Code)) (cn : Str) (cs : Scope) (a : Addr) (ccd : Value) (cl : List (Str × Addr)) (outer : List Env) (A₀ : Around) (base h₀ : Heap) (L : Addr) (m : Str → Option Value) (news : List (Addr × Obj)) (s : Shared) (Q E : Value → Shared → Prop) (x y : Int) (t u : Tok),
    ∀ (hB : Below A₀ base outer h₀) (hF : Fr h₀ L s.heap m) (hX : (Mine.top.heap_1 w.params).In h₀) (hN : News h₀ L s.heap news) (hT : Top topProg (looseW Mine.top.view_1 [Str.ofString "_safe_string", Str.ofString "_Accumulator"] ++ List.map (fun x => x.name) (recsOf Mine.top.view_1) ++ List.map (fun x => x.fst) (litsOf Mine.top.view_1) ++ List.map (fun x => x.name) (clssOf Mine.top.view_1 (looseW Mine.top.view_1 [Str.ofString "_safe_string", Str.ofString "_Accumulator"]))) mean mg mb h₀) (hk : cs.kind = .function) (hd : dp + 1 < recursionLimit) (hu : un + 8 < cLine) (hx : 0 ≤ x ∧ x < 1000) (hy : 0 ≤ y ∧ y < 1000)
    (hret : ∀ r h' tk', Fr h₀ L h' m → News h₀ L h' news → Q (.int (Builtin.bitAnd x y) r) { s with heap := h', toks := tk' }),
    wpAny (model PySem.Challenge.rw_wu0081_01.row.prog w) (ktrTop dp un gd cn cs L a ccd cl outer) (call (.ref 250) [.int x t, .int y u]) Q E s := by
  k_fill
  intro dp un gd cn cs a ccd cl outer A₀ base h₀ L m news s Q E x y t u B F X N T hk hd hu hx hy hret
  refine wpAny_call ?_
  k_dflt (refine' code_def ?k1 ?k2 ?k3 ?k4 ?k5 ?kA ?kF ?kK ?k6 ?k7 ?k8 ?k9 ?kB ?_ ?c2 ?c3 ?c4 ?c5; (case kA => exact rfl); (case kF => exact rfl); (case kK => assumption); (case k1 => k_asm); (case k2 => k_asm); (case k3 => k_asm); (case k4 => k_asm); (case k5 => k_asm); (case k6 => k_is); (case k7 => k_is); (case k8 => ktr_room); (case k9 => first | exact BindsTo.of_eq rfl | exact binds_K (by k_in) rfl (by k_is) rfl rfl rfl); (case c5 => decide); (case kB => exact locs rfl); (case c2 => exact rfl); (case c3 => exact rfl); (case c4 => exact rfl); k_whole; intro g' L' h' FG' F' N' B' X' T'; (try dsimp only); (try k_fold))
  k_steps
  exact hret _ _ _ (by assumption) (by assumption)
theorem ixor_ok {w : World} {mean : ExcName → Option Value} {mg mb : Str → Option Value} : ∀ (dp un : Nat) (gd : Option (List Code)) (cn : Str) (cs : Scope) (a : Addr) (ccd : Value) (cl : List (Str × Addr)) (outer : List Env) (A₀ : Around) (base h₀ : Heap) (L : Addr) (m : Str → Option Value) (news : List (Addr × Obj)) (s : Shared) (Q E : Value → Shared → Prop) (x y : Int) (t u : Tok),
    ∀ (hB : Below A₀ base outer h₀) (hF : Fr h₀ L s.heap m) (hX : (Mine.top.heap_1 w.params).In h₀) (hN : News h₀ L s.heap news) (hT : Top topProg (looseW Mine.top.view_1 [Str.ofString "_safe_string", Str.ofString "_Accumulator"] ++ List.map (fun x => x.name) (recsOf Mine.top.view_1) ++ List.map (fun x => x.fst) (litsOf Mine.top.view_1) ++ List.map (fun x => x.name) (clssOf Mine.top.view_1 (looseW Mine.top.view_1 [Str.ofString "_safe_string", Str.ofString "_Accumulator"]))) mean mg mb h₀) (hk : cs.kind = .function) (hd : dp + 1 < recursionLimit) (hu : un + 8 < cLine) (hx : 0 ≤ x ∧ x < 1000) (hy : 0 ≤ y ∧ y < 1000)
    (hret : ∀ r h' tk', Fr h₀ L h' m → News h₀ L h' news → Q (.int (Builtin.bitXor x y) r) { s with heap := h', toks := tk' }),
    wpAny (model PySem.Challenge.rw_wu0081_01.row.prog w) (ktrTop dp un gd cn cs L a ccd cl outer) (call (.ref 278) [.int x t, .int y u]) Q E s := by
  k_fill
  intro dp un gd cn cs a ccd cl outer A₀ base h₀ L m news s Q E x y t u B F X N T hk hd hu hx hy hret
  refine wpAny_call ?_
  k_dflt (refine' code_def ?k1 ?k2 ?k3 ?k4 ?k5 ?kA ?kF ?kK ?k6 ?k7 ?k8 ?k9 ?kB ?_ ?c2 ?c3 ?c4 ?c5; (case kA => exact rfl); (case kF => exact rfl); (case kK => assumption); (case k1 => k_asm); (case k2 => k_asm); (case k3 => k_asm); (case k4 => k_asm); (case k5 => k_asm); (case k6 => k_is); (case k7 => k_is); (case k8 => ktr_room); (case k9 => first | exact BindsTo.of_eq rfl | exact binds_K (by k_in) rfl (by k_is) rfl rfl rfl); (case c5 => decide); (case kB => exact locs rfl); (case c2 => exact rfl); (case c3 => exact rfl); (case c4 => exact rfl); k_whole; intro g' L' h' FG' F' N' B' X' T'; (try dsimp only); (try k_fold))
  k_steps
  exact hret _ _ _ (by assumption) (by assumption)
theorem ilshift_ok {w : World} {mean : ExcName → Option Value} {mg mb : Str → Option Value} : ∀ (dp un : Nat) (gd : Option (List Code)) (cn : Str) (cs : Scope) (a : Addr) (ccd : Value) (cl : List (Str × Addr)) (outer : List Env) (A₀ : Around) (base h₀ : Heap) (L : Addr) (m : Str → Option Value) (news : List (Addr × Obj)) (s : Shared) (Q E : Value → Shared → Prop) (x y : Int) (t u : Tok),
    ∀ (hB : Below A₀ base outer h₀) (hF : Fr h₀ L s.heap m) (hX : (Mine.top.heap_1 w.params).In h₀) (hN : News h₀ L s.heap news) (hT : Top topProg (looseW Mine.top.view_1 [Str.ofString "_safe_string", Str.ofString "_Accumulator"] ++ List.map (fun x => x.name) (recsOf Mine.top.view_1) ++ List.map (fun x => x.fst) (litsOf Mine.top.view_1) ++ List.map (fun x => x.name) (clssOf Mine.top.view_1 (looseW Mine.top.view_1 [Str.ofString "_safe_string", Str.ofString "_Accumulator"]))) mean mg mb h₀) (hk : cs.kind = .function) (hd : dp + 1 < recursionLimit) (hu : un + 8 < cLine) (hx : 0 ≤ x ∧ x < 1000) (hy : 0 ≤ y ∧ y < 12)
    (hret : ∀ r h' tk', Fr h₀ L h' m → News h₀ L h' news → Q (.int (x * 2 ^ y.toNat) r) { s with heap := h', toks := tk' }),
    wpAny (model PySem.Challenge.rw_wu0081_01.row.prog w) (ktrTop dp un gd cn cs L a ccd cl outer) (call (.ref 257) [.int x t, .int y u]) Q E s := by
  k_fill
  intro dp un gd cn cs a ccd cl outer A₀ base h₀ L m news s Q E x y t u B F X N T hk hd hu hx hy hret
  refine wpAny_call ?_
  k_dflt (refine' code_def ?k1 ?k2 ?k3 ?k4 ?k5 ?kA ?kF ?kK ?k6 ?k7 ?k8 ?k9 ?kB ?_ ?c2 ?c3 ?c4 ?c5; (case kA => exact rfl); (case kF => exact rfl); (case kK => assumption); (case k1 => k_asm); (case k2 => k_asm); (case k3 => k_asm); (case k4 => k_asm); (case k5 => k_asm); (case k6 => k_is); (case k7 => k_is); (case k8 => ktr_room); (case k9 => first | exact BindsTo.of_eq rfl | exact binds_K (by k_in) rfl (by k_is) rfl rfl rfl); (case c5 => decide); (case kB => exact locs rfl); (case c2 => exact rfl); (case c3 => exact rfl); (case c4 => exact rfl); k_whole; intro g' L' h' FG' F' N' B' X' T'; (try dsimp only); (try k_fold))
  k_steps
  exact hret _ _ _ (by assumption) (by assumption)
theorem not_ok {w : World} {mean : ExcName → Option Value} {mg mb : Str → Option Value} : ∀ (dp un : Nat) (gd : Option (List Code)) (cn : Str) (cs : Scope) (a : Addr) (ccd : Value) (cl : List (Str × Addr)) (outer : List Env) (A₀ : Around) (base h₀ : Heap) (L : Addr) (m : Str → Option Value) (news : List (Addr × Obj)) (s : Shared) (Q E : Value → Shared → Prop) (x : Int) (t : Tok),
    ∀ (hB : Below A₀ base outer h₀) (hF : Fr h₀ L s.heap m) (hX : (Mine.top.heap_1 w.params).In h₀) (hN : News h₀ L s.heap news) (hT : Top topProg (looseW Mine.top.view_1 [Str.ofString "_safe_string", Str.ofString "_Accumulator"] ++ List.map (fun x => x.name) (recsOf Mine.top.view_1) ++ List.map (fun x => x.fst) (litsOf Mine.top.view_1) ++ List.map (fun x => x.name) (clssOf Mine.top.view_1 (looseW Mine.top.view_1 [Str.ofString "_safe_string", Str.ofString "_Accumulator"]))) mean mg mb h₀) (hk : cs.kind = .function) (hd : dp + 1 < recursionLimit) (hu : un + 8 < cLine)
    (hret : ∀ h' tk', Fr h₀ L h' m → News h₀ L h' news → Q (.bool (!(x != 0))) { s with heap := h', toks := tk' }),
    wpAny (model PySem.Challenge.rw_wu0081_01.row.prog w) (ktrTop dp un gd cn cs L a ccd cl outer) (call (.ref 229) [.int x t]) Q E s := by
  k_fill
  intro dp un gd cn cs a ccd cl outer A₀ base h₀ L m news s Q E x t B F X N T hk hd hu hret
  refine wpAny_call ?_
  k_dflt (refine' code_def ?k1 ?k2 ?k3 ?k4 ?k5 ?kA ?kF ?kK ?k6 ?k7 ?k8 ?k9 ?kB ?_ ?c2 ?c3 ?c4 ?c5; (case kA => exact rfl); (case kF => exact rfl); (case kK => assumption); (case k1 => k_asm); (case k2 => k_asm); (case k3 => k_asm); (case k4 => k_asm); (case k5 => k_asm); (case k6 => k_is); (case k7 => k_is); (case k8 => ktr_room); (case k9 => first | exact BindsTo.of_eq rfl | exact binds_K (by k_in) rfl (by k_is) rfl rfl rfl); (case c5 => decide); (case kB => exact locs rfl); (case c2 => exact rfl); (case c3 => exact rfl); (case c4 => exact rfl); k_whole; intro g' L' h' FG' F' N' B' X' T'; (try dsimp only); (try k_fold))
  k_steps
  exact hret _ _ (by assumption) (by assumption)
end Mine
end

theorem Mine.rs9 {M : Model} {A : Around} {Q : Nat → Shared → Prop} {E : Value → Shared → Prop} {s : Shared} (h : wpAny M A (pure 1) Q E s) : wpAny M A (pure 1) Q E s := by first | (walk1; fail) | exact h
section
open PySem PySem.W PyProof.Rows PySem.Calls
set_option Elab.async false
set_option linter.unusedVariables false
set_option linter.unusedSimpArgs false
set_option maxRecDepth 100000
set_option maxHeartbeats 2000000
set_option pp.maxSteps 1200
set_option pp.deepTerms false
namespace Mine
set_option maxHeartbeats 30000000
local macro_rules | `(tactic| walk_at $s) => if s.getString == "getMethod ref" then `(tactic| walk_at "own method") else if s.getString == "getAttr ref" then `(tactic| ((with_reducible show wpAny _ _ (getAttr (Value.ref _) (PySem.Str.ofString "_initial_size") _) _ _ _); refine stop_here ?_)) else if s.getString ∈ ["call ref", "call builtin:len", "call type:str", "pyIter ref", "pyIter str", "call builtin:list.append"] then `(tactic| refine stop_here ?_) else Lean.Macro.throwUnsupported
theorem f_lenf {w : World} : findIn (Mine.top.heap_1 w.params) (.ref 186) "__len__" = some (some (.ref 153)) := by kernel_rfl
theorem f_lenfn {w : World} : isFn (Mine.top.heap_1 w.params) (.ref 153) = true := by kernel_rfl
theorem f_push {w : World} : findIn (Mine.top.heap_1 w.params) (.ref 186) "push" = some (some (.ref 130)) := by kernel_rfl
theorem f_ty130 {w : World} : typeIn (Mine.top.heap_1 w.params) (.ref 130) = some (.type "function") := by kernel_rfl
theorem sh_push (h : Int) (u : Tok) (v : Value) : shadowIn (some (iniOf h u v)) "push" = some false := by unfold shadowIn; rfl
theorem news_rot {h₀ h : Heap} {L : Addr} {a b c d e f g i : Addr × Obj} {r : List (Addr × Obj)} (N : News h₀ L h (a :: b :: c :: d :: e :: f :: g :: i :: r)) : News h₀ L h (b :: c :: d :: e :: f :: g :: i :: a :: r) :=
  fun p hp => N p (by
    revert p; exact (by refine allC ?_ (allC ?_ (allC ?_ (allC ?_ (allC ?_ (allC ?_ (allC ?_ (allC ?_ (fun p hp => ?_)))))))) <;> first | exact mAt 0 | exact mAt 1 | exact mAt 2 | exact mAt 3 | exact mAt 4 | exact mAt 5 | exact mAt 6 | exact mAt 7 | exact mAt 8 | exact mAt 9 | exact mAt 10 | exact mAt 11 | exact mAt 12 | exact mAt 13 | exact mAt 14 | exact mTl 1 hp | exact mTl 2 hp | exact mTl 3 hp | exact mTl 4 hp | exact mTl 5 hp | exact mTl 6 hp | exact mTl 7 hp | exact mTl 8 hp | exact mTl 9 hp | exact mTl 10 hp | exact mTl 11 hp | exact mTl 12 hp | exact mTl 13 hp | exact mTl 14 hp | exact mTl 15 hp))
theorem rowLen_snoc : ∀ (l : List WI) (p : WI), rowLen (l ++ [p]) = rowLen l + (1 + p.2.2.1.length)
  | [], p => by simp [rowLen]
  | q :: r, p => by simp only [List.cons_append, rowLen, rowLen_snoc r p]; omega
theorem blank_ascii : (PySem.Str.ofString " ").cps.all (· < 128) = true := by kernel_rfl
theorem blank_at : (PySem.Str.ofString " ").cps[0]? = some 32 := by kernel_rfl
theorem sh_pcount (h : Int) (u : Tok) (v : Value) : shadowIn (some (iniOf h u v)) "part_count" = some false := by unfold shadowIn; rfl
theorem range_small (a : Int) (h0 : 0 ≤ a) (h1 : a ≤ 1000) : Builtin.Range.small a 0 (-1) = true := by
  have e : Builtin.Range.rangeSize a 0 (-1) = a := by
    unfold Builtin.Range.rangeSize
    rw [if_neg (by decide)]
    split
    · rw [show (-(-1 : Int)) = 1 from rfl, Int.ediv_one]; omega
    · omega
  unfold Builtin.Range.small
  rw [e]
  simp only [Builtin.Range.rangeFitsLong, Bool.and_eq_true, Bool.or_eq_true, decide_eq_true_eq, beq_iff_eq]
  refine ⟨⟨⟨⟨by omega, by omega⟩, by omega⟩, by omega⟩, ?_⟩
  simp
theorem f_popf {w : World} : findIn (Mine.top.heap_1 w.params) (.ref 186) "pop_from" = some (some (.ref 138)) := by kernel_rfl
theorem f_ty138 {w : World} : typeIn (Mine.top.heap_1 w.params) (.ref 138) = some (.type "function") := by kernel_rfl
theorem sh_popf (h : Int) (u : Tok) (v : Value) : shadowIn (some (iniOf h u v)) "pop_from" = some false := by unfold shadowIn; rfl
theorem f_reset {w : World} : findIn (Mine.top.heap_1 w.params) (.ref 186) "reset" = some (some (.ref 168)) := by kernel_rfl
theorem f_ty168 {w : World} : typeIn (Mine.top.heap_1 w.params) (.ref 168) = some (.type "function") := by kernel_rfl
theorem sh_reset (h : Int) (u : Tok) (v : Value) : shadowIn (some (iniOf h u v)) "reset" = some false := by unfold shadowIn; rfl
theorem f_strf {w : World} : findIn (Mine.top.heap_1 w.params) (.ref 186) "__str__" = some (some (.ref 160)) := by kernel_rfl
theorem f_strfn {w : World} : isFn (Mine.top.heap_1 w.params) (.ref 160) = true := by kernel_rfl
theorem refs_push (ws : List WI) (nw : WI) : (refsOf ws).push (.ref nw.1) = refsOf (ws ++ [nw]) := by simp [refsOf]
theorem sub_list : isSubtype (.type "list") (.type "list") = pure true := by rw [isSubtype_type]; kernel_rfl
theorem append_K {w : World} {A : Around} {E : Value → Shared → Prop} {s : Shared} {h₀ : Heap} {L ln : Addr} {m : Str → Option Value} {news : List (Addr × Obj)} {gg : Obj → List (Addr × Obj)} {ls : Array Value} {nl : Nat} {v : Value} {Q : Value → Shared → Prop} (F : Fr h₀ L s.heap m) (N : News h₀ L s.heap news) (U : UpdF ln (listOf ls nl) news gg) (hsz : ls.size ≤ 1000)
    (hq : ∀ h' n', Fr h₀ L h' m → News h₀ L h' (gg (listOf (ls.push v) n')) → Q .none { s with heap := h' }) : wpAny (model PySem.Challenge.rw_wu0081_01.row.prog w) A (call (.builtin "list.append") [.ref ln, v]) Q E s := by
  have hx : s.heap.get? ln = some (listOf ls nl) := (N _ (upd_mem U).1).1
  have hi : Looks (model PySem.Challenge.rw_wu0081_01.row.prog w) s.heap (isInstance (.ref ln) (.type "list")) true := (show Looks (model PySem.Challenge.rw_wu0081_01.row.prog w) s.heap (typeOf (.ref ln)) (.type "list") from (Looks.ld hx).andThen .now).andThen (Looks.of_pure sub_list)
  refine builtin_call (owner := "list") (nm := "append") hi (.inr (by decide +kernel)) (by decide +kernel) (by decide +kernel) PySem.F.entry_list_append (PySem.F.args_list_append_2 _ _) ?_
  show wpAny _ _ (updateSeq ln (·.push v) >>= fun _ => ret .none) _ _ s
  refine wpAny_bind ?_
  refine absG fun G99 k99 => ?_
  obtain ⟨F2, N2⟩ := fn_upd F N U up_other (Heap.get?_update_self (Obj.mapSeq (·.push v)) hx rfl)
  refine k99.go ?_
  clear k99 G99
  exact wpAny_updateSeq hx rfl (hz := by rw [sizeLine_eq]; omega) (wpAny_pure ⟨.none, rfl, hq _ _ F2 N2⟩)
theorem known1 {m : Str → Option Value} {a : Str} {va : Value} (h1 : m a = some va) : m = fun z => if z = a then some va else m z := kstep h1 rfl
theorem f_popm {w : World} : findIn (Mine.top.heap_1 w.params) (.ref 186) "pop" = some (some (.ref 146)) := by kernel_rfl
theorem f_ty146 {w : World} : typeIn (Mine.top.heap_1 w.params) (.ref 146) = some (.type "function") := by kernel_rfl
theorem sh_pop (h : Int) (u : Tok) (v : Value) : shadowIn (some (iniOf h u v)) "pop" = some false := by unfold shadowIn; rfl
theorem apc_ok {w : World} {mean : ExcName → Option Value} {mg mb : Str → Option Value} : ∀ (dp un : Nat) (gd : Option (List Code)) (cn : Str) (cs : Scope) (a : Addr) (ccd : Value) (cl : List (Str × Addr)) (outer : List Env) (A₀ : Around) (base h₀ : Heap) (L : Addr) (m : Str → Option Value) (news : List (Addr × Obj)) (s : Shared) (Q E : Value → Shared → Prop) (v dv ln xa dxa : Addr) (ws : List WI) (na : Nat) (ha : Int) (ua za : Tok) (ls : Array Value) (nl : Nat) (k1 k2 k3 k4 k5 k6 t1 t2 t3 t4 t5 : Tok) (wd : Int) (word : Str) (tw : Tok) (p1 p2 : Array Value) (rest : List (Addr × Obj))
    (hnews : news = (148, tabObj p1) :: (155, tabObj p2) :: (xa, accObj dxa (refsOf ws) na) :: (dxa, iniOf ha ua (.int 0 za)) :: (ln, listOf ls nl) :: (v, instObj 102 dv) :: (dv, fmtObj w.params k1 k2 k3 k4 k5 k6 wd t1 t2 t3 t4 ln xa) :: rest),
    ∀ (hB : Below A₀ base outer h₀) (hF : Fr h₀ L s.heap m) (hX : (Mine.top.heap_1 w.params).In h₀) (hN : News h₀ L s.heap news) (hT : Top topProg (looseW Mine.top.view_1 [Str.ofString "_safe_string", Str.ofString "_Accumulator"] ++ List.map (fun x => x.name) (recsOf Mine.top.view_1) ++ List.map (fun x => x.fst) (litsOf Mine.top.view_1) ++ List.map (fun x => x.name) (clssOf Mine.top.view_1 (looseW Mine.top.view_1 [Str.ofString "_safe_string", Str.ofString "_Accumulator"]))) mean mg mb h₀) (hk : cs.kind = .function) (hd : dp + 12 < recursionLimit) (hu : un + 300 < cLine) (hw : 0 ≤ wd ∧ wd ≤ 9)
    (hG : AllBare s.gens) (hT1 : TriplesOk p1.toList) (hT2 : TriplesOk p2.toList)
    (hws : ∀ p ∈ ws, (p.1, tupObj (pairVals p)) ∈ rest)
    (hne : (148 : Addr) ≠ xa ∧ (148 : Addr) ≠ dxa ∧ (148 : Addr) ≠ ln ∧ (155 : Addr) ≠ xa ∧ (155 : Addr) ≠ dxa ∧ (155 : Addr) ≠ ln ∧ xa ≠ dxa ∧ xa ≠ ln ∧ dxa ≠ ln)
    (hr : ∀ p ∈ (v, instObj 102 dv) :: (dv, fmtObj w.params k1 k2 k3 k4 k5 k6 wd t1 t2 t3 t4 ln xa) :: rest, p.1 ≠ 148 ∧ p.1 ≠ 155 ∧ p.1 ≠ xa ∧ p.1 ≠ dxa ∧ p.1 ≠ ln)
    (hwl : ws.length ≤ 20) (hwb : ∀ p ∈ ws, p.2.2.1.length ≤ 100) (hwd : word.length ≤ 100) (hls : ls.size ≤ 20)
    (hretA : ∀ (nw : WI) na' z' q1 q2 g' h' tk', nw.2.2.1 = word → (rowLen ws + (1 + word.length) ≤ wd ∨ ws = []) → Fr h₀ L h' m →
      News h₀ L h' ((148, tabObj q1) :: (155, tabObj q2) :: (xa, accObj dxa (refsOf (ws ++ [nw])) na') :: (dxa, iniOf ha ua (.int 0 z')) :: (ln, listOf ls nl) :: (v, instObj 102 dv) :: (dv, fmtObj w.params k1 k2 k3 k4 k5 k6 wd t1 t2 t3 t4 ln xa) :: (nw.1, tupObj (pairVals nw)) :: rest) →
      (∀ p ∈ news, p.1 < nw.1) → AllBare g' → TriplesOk q1.toList → TriplesOk q2.toList → Q .none { s with heap := h', gens := g', toks := tk' })
    (hretB : ∀ (nw : WI) na' z' q1 q2 g' h' tk' nl' t', nw.2.2.1 = word → wd < rowLen ws + (1 + word.length) → ws ≠ [] → Fr h₀ L h' m →
      News h₀ L h' ((148, tabObj q1) :: (155, tabObj q2) :: (xa, accObj dxa (refsOf [nw]) na') :: (dxa, iniOf ha ua (.int 0 z')) :: (ln, listOf (ls.push (.str (rowStr ws) t')) nl') :: (v, instObj 102 dv) :: (dv, fmtObj w.params k1 k2 k3 k4 k5 k6 wd t1 t2 t3 t4 ln xa) :: (nw.1, tupObj (pairVals nw)) :: rest) →
      (∀ p ∈ news, p.1 < nw.1) → AllBare g' → TriplesOk q1.toList → TriplesOk q2.toList → Q .none { s with heap := h', gens := g', toks := tk' }),
    wpAny (model PySem.Challenge.rw_wu0081_01.row.prog w) (ktrTop dp un gd cn cs L a ccd cl outer) (call (.ref 99) [.ref v, .str " " t5, .str word tw]) Q E s := by
  k_fill
  intro dp un gd cn cs a ccd cl outer A₀ base h₀ L m news s Q E v dv ln xa dxa ws na ha ua za ls nl k1 k2 k3 k4 k5 k6 t1 t2 t3 t4 t5 wd word tw p1 p2 rest hnews B F X N T hk hd hu hw hG hT1 hT2 hws hne hr hwl hwb hwd hls hretA hretB
  refine absG fun G99 k99 => ?_
  subst hnews
  refine k99.go ?_
  clear k99 G99
  refine wpAny_call ?_
  k_dflt (refine' code_def ?k1 ?k2 ?k3 ?k4 ?k5 ?kA ?kF ?kK ?k6 ?k7 ?k8 ?k9 ?kB ?_ ?c2 ?c3 ?c4 ?c5; (case kA => exact rfl); (case kF => exact rfl); (case kK => assumption); (case k1 => k_asm); (case k2 => k_asm); (case k3 => k_asm); (case k4 => k_asm); (case k5 => k_asm); (case k6 => k_is); (case k7 => k_is); (case k8 => ktr_room); (case k9 => first | exact BindsTo.of_eq rfl | exact binds_K (by k_in) rfl (by k_is) rfl rfl rfl); (case c5 => decide); (case kB => exact locs rfl); (case c2 => exact rfl); (case c3 => exact rfl); (case c4 => exact rfl); k_whole; intro g' L' h' FG' F' N' B' X' T'; (try dsimp only); (try k_fold))
  k_steps
  all_goals (try unfold Stop)
  refine absG fun G99 k99 => ?_
  refine andE9 hne fun n1 n2 n3 n4 n5 n6 n7 n8 n9 => ?_
  clear hne
  refine k99.go ?_
  clear k99 G99
  have mx : (xa, accObj dxa (refsOf ws) na) ∈ (148, tabObj p1) :: (155, tabObj p2) :: (xa, accObj dxa (refsOf ws) na) :: (dxa, iniOf ha ua (.int 0 za)) :: (ln, listOf ls nl) :: (v, instObj 102 dv) :: (dv, fmtObj w.params k1 k2 k3 k4 k5 k6 wd t1 t2 t3 t4 ln xa) :: rest := .tail _ (.tail _ (.head _))
  have mdx : (dxa, iniOf ha ua (.int 0 za)) ∈ (148, tabObj p1) :: (155, tabObj p2) :: (xa, accObj dxa (refsOf ws) na) :: (dxa, iniOf ha ua (.int 0 za)) :: (ln, listOf ls nl) :: (v, instObj 102 dv) :: (dv, fmtObj w.params k1 k2 k3 k4 k5 k6 wd t1 t2 t3 t4 ln xa) :: rest := .tail _ (.tail _ (.tail _ (.head _)))
  refine acc_method (X'.keeps F'.keep) (N' _ mx).1 (N' _ mdx).1 f_push f_ty130 rfl (sh_push _ _ _) ?_
  k_steps
  all_goals (try unfold Stop)
  refine' push_ok _ _ _ _ _ _ _ _ _ _ _ _ _ _ _ _ _ _ xa dxa (refsOf ws) na ha ua (.int 0 za) (fun o => (148, tabObj p1) :: (155, tabObj p2) :: (xa, o) :: (dxa, iniOf ha ua (.int 0 za)) :: (ln, listOf ls nl) :: (v, instObj 102 dv) :: (dv, fmtObj w.params k1 k2 k3 k4 k5 k6 wd t1 t2 t3 t4 ln xa) :: rest) _ _ _ _ ?kB ?kF ?kX ?kN ?kT ?kk ?kd ?ku ?kU mx mdx (by simp [refsOf]; omega) ?kr
  (case kB => k_asm); (case kF => k_asm); (case kX => assumption); (case kN => k_asm); (case kT => k_asm); (case kk => exact rfl); (case kd => ktr_room); (case ku => first | ktr_units | (have hcL9 := cLine_is; (try simp only [units_under_make, units_in1, units_deeper, Around.mark_units, units_caller]); (try dsimp only [ktrTop]); omega))
  case kU =>
    exact UpdF.tail n1 (UpdF.tail n4 (UpdF.head fun p hp => by
      revert p; exact (allC (n7.symm) (allC (n8.symm) (fun p hp => (hr p hp).2.2.1)))))
  case kr =>
  intro tp h1 tk1 na1 F1 N1 l1
  rw [refs_push ws (tp, t5, word, tw)] at N1
  generalize hWS : ws ++ [(tp, t5, word, tw)] = WS at N1
  replace N1 := news_rot N1
  have hWl : WS.length ≤ 21 := by rw [← hWS]; simp; omega
  have hWb : ∀ p ∈ WS, p.2.2.1.length ≤ 100 := fun p hp => by
    rw [← hWS] at hp
    rcases List.mem_append.mp hp with hp | hp
    · exact hwb p hp
    · rw [List.mem_singleton.mp hp]; exact hwd
  have hWS2 : refsOf WS = ((ws.map fun p : WI => Value.ref p.1) ++ [Value.ref tp]).toArray := by rw [← hWS]; simp [refsOf]
  have hrest : ∀ p ∈ (v, instObj 102 dv) :: (dv, fmtObj w.params k1 k2 k3 k4 k5 k6 wd t1 t2 t3 t4 ln xa) :: (tp, tupObj #[.str " " t5, .str word tw]) :: rest, p.1 ≠ 148 ∧ p.1 ≠ 155 ∧ p.1 ≠ xa ∧ p.1 ≠ dxa ∧ p.1 ≠ ln := fun p hp => by
    have g1 := l1 (148, tabObj p1) (.head _)
    have g2 := l1 (155, tabObj p2) (.tail _ (.head _))
    have g3 := l1 _ mx
    have g4 := l1 _ mdx
    have g5 := l1 (ln, listOf ls nl) (.tail _ (.tail _ (.tail _ (.tail _ (.head _)))))
    revert p; exact (allC (hr _ (.head _)) (allC (hr _ (.tail _ (.head _))) (allC (⟨Nat.ne_of_gt g1, Nat.ne_of_gt g2, Nat.ne_of_gt g3, Nat.ne_of_gt g4, Nat.ne_of_gt g5⟩) (fun p hp => hr _ (.tail _ (.tail _ hp))))))
  have hWt : ∀ p ∈ WS, (p.1, tupObj (pairVals p)) ∈ (tp, tupObj #[.str " " t5, .str word tw]) :: rest := fun p hp => by
    rw [← hWS] at hp
    rcases List.mem_append.mp hp with hp | hp
    · exact .tail _ (hws p hp)
    · rw [List.mem_singleton.mp hp]; exact .head _
  k_steps
  all_goals (try unfold Stop)
  refine len_K F1 X' (acc_inst (N1 _ (.tail _ (.tail _ (.head _)))).1 (N1 _ (.tail _ (.tail _ (.tail _ (.head _))))).1) f_lenf f_lenfn ?_
  have hnt : ∀ p ∈ (155, tabObj p2) :: (xa, accObj dxa (refsOf WS) na1) :: (dxa, iniOf ha ua (.int 0 za)) :: (ln, listOf ls nl) :: (v, instObj 102 dv) :: (dv, fmtObj w.params k1 k2 k3 k4 k5 k6 wd t1 t2 t3 t4 ln xa) :: (tp, tupObj #[.str (PySem.Str.ofString " ") t5, .str word tw]) :: rest, p.1 ≠ 148 := fun p hp => by
    revert p; exact (allC ((by decide : (155 : Nat) ≠ 148)) (allC (n1.symm) (allC (n2.symm) (allC (n3.symm) (fun p hp => (hrest p hp).1)))))
  refine' lena_ok _ _ _ _ _ _ _ _ _ _ _ _ _ _ _ _ _ _ xa dxa WS na1 ha ua za p1 ?kB ?kF ?kX ?kN ?kT ?kk ?kd ?ku hG hT1 (.tail _ (.head _)) (.tail _ (.tail _ (.head _))) (fun p hp => .tail _ (.tail _ (.tail _ (.tail _ (.tail _ (.tail _ (hWt p hp))))))) hnt (by omega) (fun p hp => Nat.le_trans (hWb p hp) (by decide)) ?kr
  (case kB => k_asm); (case kF => k_asm); (case kX => assumption); (case kN => k_asm); (case kT => k_asm); (case kk => exact rfl); (case kd => ktr_room); (case ku => first | ktr_units | (have hcL9 := cLine_is; (try simp only [units_under_make, units_in1, units_deeper, Around.mark_units, units_caller]); (try dsimp only [ktrTop]); omega))
  case kr =>
  intro r2 h2 tk2 g2 q1 F2 N2 G2 T2
  have bW := rowLen_bound WS fun p hp => Nat.le_trans (hWb p hp) (by decide)
  refine ⟨⟨bW.1, by omega⟩, ?_⟩
  have eW : rowLen WS = rowLen ws + (1 + word.length) := by rw [← hWS, rowLen_snoc]
  clear N1 F1 F' N' hnt
  rcases Int.lt_or_le wd (rowLen WS) with hgt | hle
  · k_steps
    all_goals (try unfold Stop)
    by_cases hws0 : ws = []
    · refine absG fun G99 k99 => ?_
      subst hws0
      refine k99.go ?_
      clear k99 G99
      have hWS1 : WS = [(tp, t5, word, tw)] := by rw [← hWS]; rfl
      refine pyIter_ascii_K blank_ascii F2 N2 (fun I h3 F3 N3 nI lI zI itI => ?_)
      refine for_K (Walks.strAscii rfl I " " t4) (fun i h st => let ⟨o, e, _⟩ := st; ⟨o, e⟩) (fun i m' nw' g' => m' "self" = some (.ref v) ∧ nw' = _ ∧ g' = g2) lI zI itI F3 N3 nI ⟨rfl, rfl, rfl⟩ ?_ ?_
      · intro i v1 m1 nw1 h4 g4 tk4 o4 hi hP hJ F4 N4 hn4 S9 hS9 E9
        refine absG fun G99 k99 => ?_
        obtain ⟨jm, rfl, rfl⟩ := hJ
        obtain ⟨c, u9, hc, rfl⟩ := hP
        have hi0 : i = 0 := by have : i < 1 := hi; omega
        subst hi0
        have hc' : c = 32 := by rw [blank_at] at hc; exact (Option.some.inj hc).symm
        subst hc'
        refine k99.go ?_
        clear k99 G99
        rw [show (⟨#[32]⟩ : Str) = PySem.Str.ofString " " from rfl]
        rw [known1 jm] at F4
        clear F3 N3 F2 N2
        k_steps
        all_goals (try unfold Stop)
        (with_reducible rename Fr g' _ _ _ => F5)
        (with_reducible rename News g' _ _ _ => N5)
        have mx5 : (xa, accObj dxa (refsOf WS) na1) ∈ (I, o4) :: (148, tabObj q1) :: (155, tabObj p2) :: (xa, accObj dxa (refsOf WS) na1) :: (dxa, iniOf ha ua (.int 0 za)) :: (ln, listOf ls nl) :: (v, instObj 102 dv) :: (dv, fmtObj w.params k1 k2 k3 k4 k5 k6 wd t1 t2 t3 t4 ln xa) :: (tp, tupObj #[.str (PySem.Str.ofString " ") t5, .str word tw]) :: rest := .tail _ (.tail _ (.tail _ (.head _)))
        have md5 : (dxa, iniOf ha ua (.int 0 za)) ∈ (I, o4) :: (148, tabObj q1) :: (155, tabObj p2) :: (xa, accObj dxa (refsOf WS) na1) :: (dxa, iniOf ha ua (.int 0 za)) :: (ln, listOf ls nl) :: (v, instObj 102 dv) :: (dv, fmtObj w.params k1 k2 k3 k4 k5 k6 wd t1 t2 t3 t4 ln xa) :: (tp, tupObj #[.str (PySem.Str.ofString " ") t5, .str word tw]) :: rest := .tail _ (.tail _ (.tail _ (.tail _ (.head _))))
        refine acc_method (X'.keeps F5.keep) (N5 _ mx5).1 (N5 _ md5).1 f_pcount f_ty183 rfl (sh_pcount _ _ _) ?_
        k_steps
        all_goals (try unfold Stop)
        refine' pcount_ok _ _ _ _ _ _ _ _ _ _ _ _ _ _ _ _ _ _ xa dxa (refsOf WS) na1 ha ua (.int 0 za) ?kB ?kF ?kX ?kN ?kT ?kk ?kd ?ku mx5 md5 ?kr
        (case kB => k_asm); (case kF => k_asm); (case kX => assumption); (case kN => k_asm); (case kT => k_asm); (case kk => exact rfl); (case kd => ktr_room); (case ku => first | ktr_units | (have hcL9 := cLine_is; (try simp only [units_under_make, units_in1, units_deeper, Around.mark_units, units_caller]); (try dsimp only [ktrTop]); omega))
        case kr =>
        intro r6 h6 tk6 F6 N6
        clear F5 N5
        have e6 : (((refsOf WS).size : Nat) : Int) = 1 := by rw [hWS1]; rfl
        rw [e6]
        k_steps
        all_goals (try unfold Stop)
        (with_reducible rename Fr g' _ _ _ => F6)
        (with_reducible rename News g' _ _ _ => N6)
        refine' pyIter_range_K ?hs F6 N6 (by assumption) (fun I2 h7 F7 N7 nI7 lI7 z7 it7 => ?_)
        case hs => exact range_small _ (by omega) (by omega)
        refine for_K (Walks.range rfl I2 ((1 : Int) - 1) (-1) 0) (fun i h st => ⟨_, st⟩) (fun i m' nw' g' => m' = _ ∧ nw' = _ ∧ g' = g4) lI7 z7 (by simpa [show Builtin.Range.rangeSize 0 0 (-1) = 0 from rfl] using it7) F7 N7 nI7 ⟨rfl, rfl, rfl⟩ ?_ ?_
        · intro i2 v2 m2 n2 h8 g8 tk8 o8 hi2
          exact absurd hi2 (Nat.not_lt_zero _)
        · intro m2 n2 h8 g8 tk8 hJ2 F8 N8
          refine absG fun G99 k99 => ?_
          obtain ⟨rfl, rfl, rfl⟩ := hJ2
          refine k99.go ?_
          clear k99 G99
          clear F7 N7 F6 N6
          k_steps
          all_goals (try unfold Stop)
          (with_reducible rename Fr g' _ _ _ => F9)
          (with_reducible rename News g' _ _ _ => N9)
          exact hS9 _ (stepK F9 N9 hn4 ⟨rfl, rfl, rfl⟩)
      · intro m1 nw1 h4 g4 tk4 hJ F4 N4
        refine absG fun G99 k99 => ?_
        obtain ⟨jm, rfl, rfl⟩ := hJ
        refine k99.go ?_
        clear k99 G99
        rw [known1 jm] at F4
        clear F3 N3 F2 N2
        k_steps
        all_goals (try unfold Stop)
        (with_reducible rename Fr g' _ _ _ => F5)
        (with_reducible rename News g' _ _ _ => N5)
        refine acc_method (X'.keeps F5.keep) (N5 _ (.tail _ (.tail _ (.head _)))).1 (N5 _ (.tail _ (.tail _ (.tail _ (.head _))))).1 f_popm f_ty146 rfl (sh_pop _ _ _) ?_
        k_steps
        all_goals (try unfold Stop)
        rw [hWS1] at N5
        replace N5 : News g' L' _ ((148, tabObj q1) :: (155, tabObj p2) :: (xa, accObj dxa (([] : List Value) ++ [Value.ref tp]).toArray na1) :: (dxa, iniOf ha ua (.int 0 za)) :: (ln, listOf ls nl) :: (v, instObj 102 dv) :: (dv, fmtObj w.params k1 k2 k3 k4 k5 k6 wd t1 t2 t3 t4 ln xa) :: (tp, tupObj #[.str (PySem.Str.ofString " ") t5, .str word tw]) :: rest) := N5
        refine' popa_ok _ _ _ _ _ _ _ _ _ _ _ _ _ _ _ _ _ _ xa dxa [] (.ref tp) na1 ha ua (.int 0 za) (fun o => (148, tabObj q1) :: (155, tabObj p2) :: (xa, o) :: (dxa, iniOf ha ua (.int 0 za)) :: (ln, listOf ls nl) :: (v, instObj 102 dv) :: (dv, fmtObj w.params k1 k2 k3 k4 k5 k6 wd t1 t2 t3 t4 ln xa) :: (tp, tupObj #[.str (PySem.Str.ofString " ") t5, .str word tw]) :: rest) ?kB ?kF ?kX ?kN ?kT ?kk ?kd ?ku ?kU (.tail _ (.tail _ (.head _))) (.tail _ (.tail _ (.tail _ (.head _)))) (by decide) ?kr
        (case kB => k_asm); (case kF => k_asm); (case kX => assumption); (case kN => k_asm); (case kT => k_asm); (case kk => exact rfl); (case kd => ktr_room); (case ku => first | ktr_units | (have hcL9 := cLine_is; (try simp only [units_under_make, units_in1, units_deeper, Around.mark_units, units_caller]); (try dsimp only [ktrTop]); omega))
        case kU =>
          exact UpdF.tail n1 (UpdF.tail n4 (UpdF.head fun p hp => by
            revert p; exact (allC (n7.symm) (allC (n8.symm) (fun p hp => (hrest p hp).2.2.1)))))
        case kr =>
        intro h12 tk12 n12 F12 N12
        clear F5 N5
        k_steps
        all_goals (try unfold Stop)
        (with_reducible rename Fr g' _ _ _ => F13)
        (with_reducible rename News g' _ _ _ => N13)
        refine acc_get (X'.keeps F13.keep) (N13 _ (.tail _ (.tail _ (.head _)))).1 (N13 _ (.tail _ (.tail _ (.tail _ (.head _))))).1 (look_ini _ _ _) rfl ?_
        k_steps
        all_goals (try unfold Stop)
        (with_reducible rename Fr g' _ _ _ => F14)
        (with_reducible rename News g' _ _ _ => N14)
        refine acc_method (X'.keeps F14.keep) (N14 _ (.tail _ (.tail _ (.head _)))).1 (N14 _ (.tail _ (.tail _ (.tail _ (.head _))))).1 f_push f_ty130 rfl (sh_push _ _ _) ?_
        k_steps
        all_goals (try unfold Stop)
        refine' push_ok _ _ _ _ _ _ _ _ _ _ _ _ _ _ _ _ _ _ xa dxa (([] : List Value).toArray) n12 ha ua (.int 0 za) (fun o => (148, tabObj q1) :: (155, tabObj p2) :: (xa, o) :: (dxa, iniOf ha ua (.int 0 za)) :: (ln, listOf ls nl) :: (v, instObj 102 dv) :: (dv, fmtObj w.params k1 k2 k3 k4 k5 k6 wd t1 t2 t3 t4 ln xa) :: (tp, tupObj #[.str (PySem.Str.ofString " ") t5, .str word tw]) :: rest) _ _ _ _ ?kB ?kF ?kX ?kN ?kT ?kk ?kd ?ku ?kU (.tail _ (.tail _ (.head _))) (.tail _ (.tail _ (.tail _ (.head _)))) (by decide) ?kr
        (case kB => k_asm); (case kF => k_asm); (case kX => assumption); (case kN => k_asm); (case kT => k_asm); (case kk => exact rfl); (case kd => ktr_room); (case ku => first | ktr_units | (have hcL9 := cLine_is; (try simp only [units_under_make, units_in1, units_deeper, Around.mark_units, units_caller]); (try dsimp only [ktrTop]); omega))
        case kU =>
          exact UpdF.tail n1 (UpdF.tail n4 (UpdF.head fun p hp => by
            revert p; exact (allC (n7.symm) (allC (n8.symm) (fun p hp => (hrest p hp).2.2.1)))))
        case kr =>
        intro tp9 h19 tk19 na19 F19 N19 l19
        clear F14 N14
        k_steps
        all_goals (try unfold Stop)
        rename_i kF kN kT kX
        refine hretA (tp9, t5, word, tw) na19 za q1 p2 g4 _ _ rfl (.inr rfl) kF (fun p hp => kN p (by
          revert p; exact (by refine allC ?_ (allC ?_ (allC ?_ (allC ?_ (allC ?_ (allC ?_ (allC ?_ (allC ?_ (fun p hp => ?_)))))))) <;> first | exact mAt 0 | exact mAt 1 | exact mAt 2 | exact mAt 3 | exact mAt 4 | exact mAt 5 | exact mAt 6 | exact mAt 7 | exact mAt 8 | exact mAt 9 | exact mAt 10 | exact mAt 11 | exact mAt 12 | exact mAt 13 | exact mAt 14 | exact mTl 1 hp | exact mTl 2 hp | exact mTl 3 hp | exact mTl 4 hp | exact mTl 5 hp | exact mTl 6 hp | exact mTl 7 hp | exact mTl 8 hp | exact mTl 9 hp | exact mTl 10 hp | exact mTl 11 hp | exact mTl 12 hp | exact mTl 13 hp | exact mTl 14 hp | exact mTl 15 hp))) (fun p hp => ?_) G2 T2 hT2
        revert p; exact (allC (l19 (148, tabObj q1) (.head _)) (allC (l19 (155, tabObj p2) (.tail _ (.head _))) (allC (l19 (xa, accObj dxa (([] : List Value).toArray) n12) (.tail _ (.tail _ (.head _)))) (allC (l19 _ (mAt 3)) (allC (l19 _ (mAt 4)) (allC (l19 _ (mAt 5)) (allC (l19 _ (mAt 6)) (fun p hp => l19 _ (mTl 8 hp)))))))))
    · refine pyIter_ascii_K blank_ascii F2 N2 (fun I h3 F3 N3 nI lI zI itI => ?_)
      refine for_K (Walks.strAscii rfl I " " t4) (fun i h st => let ⟨o, e, _⟩ := st; ⟨o, e⟩) (fun i m' nw' g' => i = 0 ∧ m' = _ ∧ nw' = _ ∧ g' = g2) lI zI itI F3 N3 nI ⟨rfl, rfl, rfl, rfl⟩ ?_ ?_
      · intro i v m1 n1 h4 g4 tk4 o4 hi hP hJ F4 N4 hn4 S9 hS9 E9
        refine absG fun G99 k99 => ?_
        obtain ⟨rfl, rfl, rfl, rfl⟩ := hJ
        obtain ⟨c, u9, hc, rfl⟩ := hP
        have hc' : c = 32 := by rw [blank_at] at hc; exact (Option.some.inj hc).symm
        subst hc'
        refine k99.go ?_
        clear k99 G99
        rw [show (⟨#[32]⟩ : Str) = PySem.Str.ofString " " from rfl]
        clear F3 N3 F2 N2
        k_steps
        all_goals (try unfold Stop)
        (with_reducible rename Fr g' L' _ _ => F5)
        (with_reducible rename News g' L' _ _ => N5)
        have mx5 : (xa, accObj dxa (refsOf WS) na1) ∈ (I, o4) :: (148, tabObj q1) :: (155, tabObj p2) :: (xa, accObj dxa (refsOf WS) na1) :: (dxa, iniOf ha ua (.int 0 za)) :: (ln, listOf ls nl) :: (v, instObj 102 dv) :: (dv, fmtObj w.params k1 k2 k3 k4 k5 k6 wd t1 t2 t3 t4 ln xa) :: (tp, tupObj #[.str (PySem.Str.ofString " ") t5, .str word tw]) :: rest := .tail _ (.tail _ (.tail _ (.head _)))
        have md5 : (dxa, iniOf ha ua (.int 0 za)) ∈ (I, o4) :: (148, tabObj q1) :: (155, tabObj p2) :: (xa, accObj dxa (refsOf WS) na1) :: (dxa, iniOf ha ua (.int 0 za)) :: (ln, listOf ls nl) :: (v, instObj 102 dv) :: (dv, fmtObj w.params k1 k2 k3 k4 k5 k6 wd t1 t2 t3 t4 ln xa) :: (tp, tupObj #[.str (PySem.Str.ofString " ") t5, .str word tw]) :: rest := .tail _ (.tail _ (.tail _ (.tail _ (.head _))))
        refine acc_method (X'.keeps F5.keep) (N5 _ mx5).1 (N5 _ md5).1 f_pcount f_ty183 rfl (sh_pcount _ _ _) ?_
        k_steps
        all_goals (try unfold Stop)
        refine' pcount_ok _ _ _ _ _ _ _ _ _ _ _ _ _ _ _ _ _ _ xa dxa (refsOf WS) na1 ha ua (.int 0 za) ?kB ?kF ?kX ?kN ?kT ?kk ?kd ?ku mx5 md5 ?kr
        (case kB => k_asm); (case kF => k_asm); (case kX => assumption); (case kN => k_asm); (case kT => k_asm); (case kk => exact rfl); (case kd => ktr_room); (case ku => first | ktr_units | (have hcL9 := cLine_is; (try simp only [units_under_make, units_in1, units_deeper, Around.mark_units, units_caller]); (try dsimp only [ktrTop]); omega))
        case kr =>
        intro r6 h6 tk6 F6 N6
        clear F5 N5
        have e6 : (((refsOf WS).size : Nat) : Int) = (ws.length : Int) + 1 := by rw [← hWS]; simp [refsOf]
        rw [e6]
        k_steps
        all_goals (try unfold Stop)
        have hwpos : 0 < ws.length := List.length_pos_iff.mpr hws0
        have ers : Builtin.Range.rangeSize ((ws.length : Int) + 1 - 1) 0 (-1) = ((ws.length : Nat) : Int) := by
          unfold Builtin.Range.rangeSize
          rw [if_neg (by decide), if_pos (by omega), show (-(-1 : Int)) = 1 from rfl, Int.ediv_one]; omega
        (with_reducible rename Fr g' L' _ _ => F6)
        (with_reducible rename News g' L' _ _ => N6)
        refine pyIter_range_K (a := (ws.length : Int) + 1 - 1) (range_small _ (by omega) (by omega)) F6 N6 (by assumption) (fun I2 h7 F7 N7 nI7 lI7 z7 it7 => ?_)
        rw [ers] at it7
        refine for_K (Walks.range rfl I2 ((ws.length : Int) + 1 - 1) (-1) ws.length) (fun i h st => ⟨_, st⟩) (fun i m' nw' g' => i = 0 ∧ m' = _ ∧ nw' = _ ∧ g' = g4) lI7 z7 (by simpa using it7) F7 N7 nI7 ⟨rfl, rfl, rfl, rfl⟩ ?_ ?_
        · intro i2 v2 m2 n2 h8 g8 tk8 o8 hi2 hP2 hJ2 F8 N8 hn8 S8 hS8 E8
          refine absG fun G99 k99 => ?_
          obtain ⟨rfl, rfl, rfl, rfl⟩ := hJ2
          obtain ⟨u2, rfl⟩ := hP2
          refine k99.go ?_
          clear k99 G99
          rw [show (ws.length : Int) + 1 - 1 + ((0 : Nat) : Int) * -1 = (ws.length : Int) by omega]
          clear F7 N7 F6 N6
          k_steps
          all_goals (try unfold Stop)
          (with_reducible rename Fr g' L' _ _ => F9)
          (with_reducible rename News g' L' _ _ => N9)
          have hx9 := (N9 _ (.tail _ (.tail _ (.tail _ (.tail _ (.head _)))))).1
          refine acc_tail (X'.keeps F9.keep) hx9 ?_ (by with_unfolding_all rfl)
          refine acc_getItem_int (v := .ref tp) (X'.keeps F9.keep) hx9 (by omega) (by omega) (by rw [← hWS]; simp [refsOf]) ?_
          clear hx9
          k_steps
          all_goals (try unfold Stop)
          (with_reducible rename Fr g' L' _ _ => F10)
          (with_reducible rename News g' L' _ _ => N10)
          refine acc_method (X'.keeps F10.keep) (N10 _ (.tail _ (.tail _ (.tail _ (.tail _ (.head _)))))).1 (N10 _ (.tail _ (.tail _ (.tail _ (.tail _ (.tail _ (.head _))))))).1 f_popf f_ty138 rfl (sh_popf _ _ _) ?_
          k_steps
          all_goals (try unfold Stop)
          rw [hWS2] at N10
          rw [show (ws.length : Int) = (((ws.map fun p : WI => Value.ref p.1).length : Nat) : Int) by simp]
          replace N10 : News g' L' _ ((148, tabObj q1) :: (155, tabObj p2) :: (xa, accObj dxa ((ws.map fun p : WI => Value.ref p.1) ++ [Value.ref tp]).toArray na1) :: (dxa, iniOf ha ua (.int 0 za)) :: (ln, listOf ls nl) :: (v, instObj 102 dv) :: (dv, fmtObj w.params k1 k2 k3 k4 k5 k6 wd t1 t2 t3 t4 ln xa) :: (tp, tupObj #[.str (PySem.Str.ofString " ") t5, .str word tw]) :: rest) := fun p hp => N10 p (.tail _ (.tail _ hp))
          refine' popf_ok _ _ _ _ _ _ _ _ _ _ _ _ _ _ _ _ _ _ xa dxa (ws.map fun p : WI => Value.ref p.1) (.ref tp) na1 ha ua (.int 0 za) (fun o => (148, tabObj q1) :: (155, tabObj p2) :: (xa, o) :: (dxa, iniOf ha ua (.int 0 za)) :: (ln, listOf ls nl) :: (v, instObj 102 dv) :: (dv, fmtObj w.params k1 k2 k3 k4 k5 k6 wd t1 t2 t3 t4 ln xa) :: (tp, tupObj #[.str (PySem.Str.ofString " ") t5, .str word tw]) :: rest) _ ?kB ?kF ?kX ?kN ?kT ?kk ?kd ?ku ?kU (.tail _ (.tail _ (.head _))) (.tail _ (.tail _ (.tail _ (.head _)))) (by simp; omega) ?kr
          (case kB => k_asm); (case kF => k_asm); (case kX => assumption); (case kN => k_asm); (case kT => k_asm); (case kk => exact rfl); (case kd => ktr_room); (case ku => first | ktr_units | (have hcL9 := cLine_is; (try simp only [units_under_make, units_in1, units_deeper, Around.mark_units, units_caller]); (try dsimp only [ktrTop]); omega))
          case kU =>
            exact UpdF.tail n1 (UpdF.tail n4 (UpdF.head fun p hp => by
              revert p; exact (allC (n7.symm) (allC (n8.symm) (fun p hp => (hrest p hp).2.2.1)))))
          case kr =>
          intro r12 h12 tk12 na12 nr F12 N12 l12
          clear F10 N10
          k_steps
          all_goals (try unfold Stop)
          (with_reducible rename Fr g' _ _ _ => F13)
          (with_reducible rename News g' _ _ _ => N13)
          have mx13 : (xa, accObj dxa (refsOf ws) na12) ∈ (155, tabObj p2) :: (148, tabObj q1) :: (xa, accObj dxa (refsOf ws) na12) :: (dxa, iniOf ha ua (.int 0 za)) :: (r12, listOf #[.ref tp] nr) :: (ln, listOf ls nl) :: (v, instObj 102 dv) :: (dv, fmtObj w.params k1 k2 k3 k4 k5 k6 wd t1 t2 t3 t4 ln xa) :: (tp, tupObj #[.str (PySem.Str.ofString " ") t5, .str word tw]) :: rest := .tail _ (.tail _ (.head _))
          replace N13 : News g' L' _ ((155, tabObj p2) :: (148, tabObj q1) :: (xa, accObj dxa (refsOf ws) na12) :: (dxa, iniOf ha ua (.int 0 za)) :: (r12, listOf #[.ref tp] nr) :: (ln, listOf ls nl) :: (v, instObj 102 dv) :: (dv, fmtObj w.params k1 k2 k3 k4 k5 k6 wd t1 t2 t3 t4 ln xa) :: (tp, tupObj #[.str (PySem.Str.ofString " ") t5, .str word tw]) :: rest) := fun p hp => N13 p (by
            revert p; exact (by refine allC ?_ (allC ?_ (allC ?_ (allC ?_ (allC ?_ (allC ?_ (allC ?_ (allC ?_ (allC ?_ (fun p hp => ?_))))))))) <;> first | exact mAt 0 | exact mAt 1 | exact mAt 2 | exact mAt 3 | exact mAt 4 | exact mAt 5 | exact mAt 6 | exact mAt 7 | exact mAt 8 | exact mAt 9 | exact mAt 10 | exact mAt 11 | exact mAt 12 | exact mAt 13 | exact mAt 14 | exact mTl 1 hp | exact mTl 2 hp | exact mTl 3 hp | exact mTl 4 hp | exact mTl 5 hp | exact mTl 6 hp | exact mTl 7 hp | exact mTl 8 hp | exact mTl 9 hp | exact mTl 10 hp | exact mTl 11 hp | exact mTl 12 hp | exact mTl 13 hp | exact mTl 14 hp | exact mTl 15 hp))
          refine kso_call ?ku9 (X'.keeps F13.keep) (acc_inst (N13 _ mx13).1 (N13 _ (.tail _ (.tail _ (.tail _ (.head _))))).1) f_strf f_strfn ?_
          case ku9 => first | ktr_units | (have hcL9 := cLine_is; (try simp only [units_under_make, units_in1, units_deeper, Around.mark_units, units_caller]); (try dsimp only [ktrTop]); omega)
          have hnt5 : ∀ p ∈ (148, tabObj q1) :: (xa, accObj dxa (refsOf ws) na12) :: (dxa, iniOf ha ua (.int 0 za)) :: (r12, listOf #[.ref tp] nr) :: (ln, listOf ls nl) :: (v, instObj 102 dv) :: (dv, fmtObj w.params k1 k2 k3 k4 k5 k6 wd t1 t2 t3 t4 ln xa) :: (tp, tupObj #[.str (PySem.Str.ofString " ") t5, .str word tw]) :: rest, p.1 ≠ 155 := fun p hp => by
            revert p; exact (allC ((by decide : (148 : Nat) ≠ 155)) (allC (Ne.symm n4) (allC (Ne.symm n5) (allC (Nat.ne_of_gt (l12 (155, tabObj p2) (.tail _ (.head _)))) (allC (Ne.symm n6) (fun p hp => (hrest p hp).2.1))))))
          refine' stra_ok _ _ _ _ _ _ _ _ _ _ _ _ _ _ _ _ _ _ xa dxa ws na12 ha ua (.int 0 za) p2 ?kB ?kF ?kX ?kN ?kT ?kk ?kd ?ku G2 hT2 (.tail _ (.head _)) (.tail _ (.tail _ (.head _))) (fun p hp => .tail _ (.tail _ (.tail _ (.tail _ (.tail _ (.tail _ (.tail _ (.tail _ (hws p hp))))))))) hnt5 (by omega) (fun p hp => Nat.le_trans (hwb p hp) (by decide)) ?kr
          (case kB => k_asm); (case kF => k_asm); (case kX => assumption); (case kN => k_asm); (case kT => k_asm); (case kk => exact rfl); (case kd => ktr_room); (case ku => first | ktr_units | (have hcL9 := cLine_is; (try simp only [units_under_make, units_in1, units_deeper, Around.mark_units, units_caller]); (try dsimp only [ktrTop]); omega))
          case kr =>
          intro r15 h15 tk15 g15 q2 F15 N15 G15 T15
          clear F13 N13 hnt5
          show wpAny _ _ _ _ _ _
          k_steps
          all_goals (try unfold Stop)
          have U15 : UpdF ln (listOf ls nl) ((155, tabObj q2) :: (148, tabObj q1) :: (xa, accObj dxa (refsOf ws) na12) :: (dxa, iniOf ha ua (.int 0 za)) :: (r12, listOf #[.ref tp] nr) :: (ln, listOf ls nl) :: (v, instObj 102 dv) :: (dv, fmtObj w.params k1 k2 k3 k4 k5 k6 wd t1 t2 t3 t4 ln xa) :: (tp, tupObj #[.str (PySem.Str.ofString " ") t5, .str word tw]) :: rest)
              (fun o => (155, tabObj q2) :: (148, tabObj q1) :: (xa, accObj dxa (refsOf ws) na12) :: (dxa, iniOf ha ua (.int 0 za)) :: (r12, listOf #[.ref tp] nr) :: (ln, o) :: (v, instObj 102 dv) :: (dv, fmtObj w.params k1 k2 k3 k4 k5 k6 wd t1 t2 t3 t4 ln xa) :: (tp, tupObj #[.str (PySem.Str.ofString " ") t5, .str word tw]) :: rest) :=
            UpdF.tail n6 (UpdF.tail n3 (UpdF.tail n8 (UpdF.tail n9 (UpdF.tail (Nat.ne_of_gt (l12 (ln, listOf ls nl) (.tail _ (.tail _ (.tail _ (.tail _ (.head _))))))) (UpdF.head fun p hp => (hrest p hp).2.2.2.2)))))
          refine append_K F15 N15 U15 (by omega) fun h16 n16 F16 N16 => ?_
          clear F15 N15 U15
          k_steps
          all_goals (try unfold Stop)
          (with_reducible rename Fr g' _ _ _ => F17)
          (with_reducible rename News g' _ _ _ => N17)
          refine acc_method (X'.keeps F17.keep) (N17 _ (.tail _ (.tail _ (.head _)))).1 (N17 _ (.tail _ (.tail _ (.tail _ (.head _))))).1 f_reset f_ty168 rfl (sh_reset _ _ _) ?_
          k_steps
          all_goals (try unfold Stop)
          replace N17 : News g' L' _ ((xa, accObj dxa (refsOf ws) na12) :: (dxa, iniOf ha ua (.int 0 za)) :: (148, tabObj q1) :: (155, tabObj q2) :: (ln, listOf (ls.push (.str (rowStr ws) r15)) n16) :: (v, instObj 102 dv) :: (dv, fmtObj w.params k1 k2 k3 k4 k5 k6 wd t1 t2 t3 t4 ln xa) :: (tp, tupObj #[.str (PySem.Str.ofString " ") t5, .str word tw]) :: (r12, listOf #[.ref tp] nr) :: rest) := fun p hp => N17 p (by
            revert p; exact (by refine allC ?_ (allC ?_ (allC ?_ (allC ?_ (allC ?_ (allC ?_ (allC ?_ (allC ?_ (allC ?_ (fun p hp => ?_))))))))) <;> first | exact mAt 0 | exact mAt 1 | exact mAt 2 | exact mAt 3 | exact mAt 4 | exact mAt 5 | exact mAt 6 | exact mAt 7 | exact mAt 8 | exact mAt 9 | exact mAt 10 | exact mAt 11 | exact mAt 12 | exact mAt 13 | exact mAt 14 | exact mTl 1 hp | exact mTl 2 hp | exact mTl 3 hp | exact mTl 4 hp | exact mTl 5 hp | exact mTl 6 hp | exact mTl 7 hp | exact mTl 8 hp | exact mTl 9 hp | exact mTl 10 hp | exact mTl 11 hp | exact mTl 12 hp | exact mTl 13 hp | exact mTl 14 hp | exact mTl 15 hp))
          have g4x := l12 _ (.tail _ (.tail _ (.head _)))
          have g5x := l12 _ (.tail _ (.tail _ (.tail _ (.head _))))
          have hxd : ∀ p ∈ (148, tabObj q1) :: (155, tabObj q2) :: (ln, listOf (ls.push (.str (rowStr ws) r15)) n16) :: (v, instObj 102 dv) :: (dv, fmtObj w.params k1 k2 k3 k4 k5 k6 wd t1 t2 t3 t4 ln xa) :: (tp, tupObj #[.str (PySem.Str.ofString " ") t5, .str word tw]) :: (r12, listOf #[.ref tp] nr) :: rest, p.1 ≠ xa ∧ p.1 ≠ dxa := fun p hp => by
            revert p; exact (allC (⟨n1, n2⟩) (allC (⟨n4, n5⟩) (allC (⟨Ne.symm n8, Ne.symm n9⟩) (allC (by have := hrest (v, instObj 102 dv) (.head _); exact ⟨this.2.2.1, this.2.2.2.1⟩) (allC (by have := hrest (dv, fmtObj w.params k1 k2 k3 k4 k5 k6 wd t1 t2 t3 t4 ln xa) (.tail _ (.head _)); exact ⟨this.2.2.1, this.2.2.2.1⟩) (allC (by have := hrest (tp, tupObj #[.str (PySem.Str.ofString " ") t5, .str word tw]) (.tail _ (.tail _ (.head _))); exact ⟨this.2.2.1, this.2.2.2.1⟩) (allC (⟨Nat.ne_of_gt g4x, Nat.ne_of_gt g5x⟩) (fun p hp => by have := hrest p (mTl 3 hp); exact ⟨this.2.2.1, this.2.2.2.1⟩))))))))
          refine' rset_ok _ _ _ _ _ _ _ _ _ _ _ _ _ _ _ _ _ _ xa dxa (refsOf ws) (.ref tp) na12 ha ua (.int 0 za) r12 nr _ rfl ?kB ?kF ?kX ?kN ?kT ?kk ?kd ?ku (fun p hp => (hxd p hp).1) (fun p hp => (hxd p hp).2) (by simp [refsOf]; omega) (.tail _ (.tail _ (.tail _ (.tail _ (.tail _ (.tail _ (.head _))))))) ?kr
          (case kB => k_asm); (case kF => k_asm); (case kX => assumption); (case kN => k_asm); (case kT => k_asm); (case kk => exact rfl); (case kd => ktr_room); (case ku => first | ktr_units | (have hcL9 := cLine_is; (try simp only [units_under_make, units_in1, units_deeper, Around.mark_units, units_caller]); (try dsimp only [ktrTop]); omega))
          case kr =>
          intro h18 tk18 n18 z18 F18 N18
          clear F17 N17 hxd
          k_steps
          all_goals (try unfold Stop)
          rename_i kF kN kT kX
          exact hretB (tp, t5, word, tw) n18 z18 q1 q2 g15 _ _ n16 r15 rfl (by omega) hws0 kF (fun p hp => kN p (by
            revert p; exact (by refine allC ?_ (allC ?_ (allC ?_ (allC ?_ (allC ?_ (allC ?_ (allC ?_ (allC ?_ (fun p hp => ?_)))))))) <;> first | exact mAt 0 | exact mAt 1 | exact mAt 2 | exact mAt 3 | exact mAt 4 | exact mAt 5 | exact mAt 6 | exact mAt 7 | exact mAt 8 | exact mAt 9 | exact mAt 10 | exact mAt 11 | exact mAt 12 | exact mAt 13 | exact mAt 14 | exact mTl 1 hp | exact mTl 2 hp | exact mTl 3 hp | exact mTl 4 hp | exact mTl 5 hp | exact mTl 6 hp | exact mTl 7 hp | exact mTl 8 hp | exact mTl 9 hp | exact mTl 10 hp | exact mTl 11 hp | exact mTl 12 hp | exact mTl 13 hp | exact mTl 14 hp | exact mTl 15 hp))) (fun p hp => l1 p hp) G15 T2 T15
        · rintro m2 n2 h8 g8 tk8 ⟨h9, _⟩
          exact absurd h9 (by omega)
      · rintro m1 n1 h4 g4 tk4 ⟨h9, _⟩
        exact absurd h9 (by decide)
  · k_steps
    all_goals (try unfold Stop)
    rename_i kF kN kT kX
    rw [← hWS] at kN
    exact hretA (tp, t5, word, tw) _ _ _ _ _ _ _ rfl (.inl (by omega)) kF kN (fun p hp => l1 p hp) G2 T2 hT2
end Mine
end

section
open PySem PySem.W PyProof.Rows PySem.Calls
set_option Elab.async false
set_option linter.unusedVariables false
set_option linter.unusedSimpArgs false
set_option maxRecDepth 100000
set_option maxHeartbeats 2000000
set_option pp.maxSteps 1200
set_option pp.deepTerms false
namespace Mine
def rowL : List Str → Int
  | [] => 0
  | w :: r => 1 + w.length + rowL r
def rowS : List Str → Str
  | [] => ⟨#[]⟩
  | w :: r => (" " : Str) ++ w ++ rowS r
theorem rowL_of : ∀ ws : List WI, rowLen ws = rowL (ws.map (·.2.2.1))
  | [] => rfl
  | p :: r => by rw [List.map_cons, rowL, ← rowL_of r]; rfl
theorem rowS_of : ∀ ws : List WI, rowStr ws = rowS (ws.map (·.2.2.1))
  | [] => rfl
  | p :: r => by rw [List.map_cons, rowS, ← rowS_of r]; rfl
structure TSt where
  places : List Int
  lines : List Str
  cur : List Str
def tStep (wd : Int) (st : TSt) (k : Nat) (w : Str) : TSt :=
  if wd < rowL st.cur + (1 + w.length) ∧ st.cur ≠ [] then ⟨st.places ++ [(k : Int) + 1], st.lines ++ [rowS st.cur], []⟩ else ⟨st.places, st.lines, st.cur ++ [w]⟩
def tAt (wd : Int) (words : List Str) : Nat → TSt
  | 0 => ⟨[0], [], []⟩
  | k + 1 => tStep wd (tAt wd words k) k (words.getD k ⟨#[]⟩)
theorem tAt_len (wd : Int) (words : List Str) : ∀ k, (tAt wd words k).places.length = (tAt wd words k).lines.length + 1 ∧ (tAt wd words k).lines.length ≤ k ∧ (tAt wd words k).cur.length ≤ k
  | 0 => ⟨rfl, Nat.le_refl _, Nat.le_refl _⟩
  | k + 1 => by
    obtain ⟨h1, h2, h3⟩ := tAt_len wd words k
    simp only [tAt, tStep]
    split
    · simp [h1]; omega
    · simp [h1]; omega
theorem tAt_mem (wd : Int) (words : List Str) : ∀ k, ∀ w ∈ (tAt wd words k).cur, w ∈ words ∨ w = ⟨#[]⟩
  | 0, _, h => nomatch h
  | k + 1, w, h => by
    simp only [tAt, tStep] at h
    split at h
    · cases h
    · rcases List.mem_append.mp h with h | h
      · exact tAt_mem wd words k w h
      · rw [List.mem_singleton.mp h]
        by_cases hk : k < words.length
        · left; rw [List.getD_eq_getElem?_getD, List.getElem?_eq_getElem hk]; exact List.getElem_mem hk
        · right; rw [List.getD_eq_getElem?_getD, List.getElem?_eq_none (by omega)]; rfl
end Mine
end

section
open PySem PySem.W PyProof.Rows PySem.Calls
set_option Elab.async false
set_option linter.unusedVariables false
set_option linter.unusedSimpArgs false
set_option maxRecDepth 100000
set_option maxHeartbeats 2000000
set_option pp.maxSteps 1200
set_option pp.deepTerms false
namespace Mine
theorem known3w {m : Str → Option Value} {a b c : Str} {va vb vc : Value} (h1 : m a = some va) (h2 : m b = some vb) (h3 : m c = some vc) : m = fun z => if z = a then some va else if z = b then some vb else if z = c then some vc else m z := kstep h1 (kstep h2 (kstep h3 rfl))
theorem known6 {m : Str → Option Value} {a b c d e f : Str} {va vb vc vd ve vf : Value} (h1 : m a = some va) (h2 : m b = some vb) (h3 : m c = some vc) (h4 : m d = some vd) (h5 : m e = some ve) (h6 : m f = some vf) :
    m = fun z => if z = a then some va else if z = b then some vb else if z = c then some vc else if z = d then some vd else if z = e then some ve else if z = f then some vf else m z := kstep h1 (kstep h2 (kstep h3 (kstep h4 (kstep h5 (kstep h6 rfl)))))
def seenF (words : List Str) (wd : Int) (vals : List Nat) : Nat → List Str → Nat → Nat
  | 0, _, seen => seen
  | h + 1, acc, seen => if wd < rowL (acc ++ [words.getD h ⟨#[]⟩]) ∧ acc ≠ [] then seen else seenF words wd vals h (acc ++ [words.getD h ⟨#[]⟩]) (seen ||| 2 ^ vals.getD h 0)
def mexF (S : Nat) : Nat → Nat → Nat
  | 0, v => v
  | f + 1, v => if S &&& 2 ^ v ≠ 0 then mexF S f (v + 1) else v
def valN (words : List Str) (wd : Int) : Nat → List Nat
  | 0 => []
  | j + 1 => valN words wd j ++ [mexF (seenF words wd (valN words wd j) j [] 0) 8 0]
theorem valN_len (words : List Str) (wd : Int) : ∀ j, (valN words wd j).length = j
  | 0 => rfl
  | j + 1 => by rw [valN, List.length_append, valN_len words wd j]; rfl
theorem seenF_lt (words : List Str) (wd : Int) (vals : List Nat) (n : Nat) : ∀ h acc seen, (∀ i < h, vals.getD i 0 < n) → seen < 2 ^ n → seenF words wd vals h acc seen < 2 ^ n
  | 0, _, _, _, h => h
  | h + 1, acc, seen, hv, hs => by
    rw [seenF]
    split
    · exact hs
    · refine seenF_lt words wd vals n h _ _ (fun i hi => hv i (by omega)) (Nat.or_lt_two_pow hs ?_)
      exact Nat.pow_lt_pow_right (by decide) (hv h (by omega))
theorem mexF_le : ∀ j : Fin 6, ∀ S : Fin (2 ^ j.val), mexF S.val 8 0 ≤ j.val := by decide +kernel
theorem valN_le (words : List Str) (wd : Int) : ∀ j, j ≤ 6 → ∀ i, i < j → (valN words wd j).getD i 0 ≤ i
  | 0, _, i, h => absurd h (Nat.not_lt_zero _)
  | j + 1, hj, i, h => by
    rw [valN]
    by_cases hi : i < j
    · rw [List.getD_eq_getElem?_getD, List.getElem?_append_left (by rw [valN_len]; exact hi), ← List.getD_eq_getElem?_getD]
      exact valN_le words wd j (by omega) i hi
    · have e : i = j := by omega
      subst e
      rw [List.getD_eq_getElem?_getD, List.getElem?_append_right (by rw [valN_len]; exact Nat.le_refl _), valN_len]
      simp only [Nat.sub_self, List.getElem?_cons_zero, Option.getD_some]
      have hs := seenF_lt words wd (valN words wd i) i i [] 0 (fun k hk => Nat.lt_of_le_of_lt (valN_le words wd i (by omega) k hk) hk) (Nat.two_pow_pos i)
      exact mexF_le ⟨i, by omega⟩ ⟨_, hs⟩
theorem bitOr_eq : ∀ S : Fin 64, ∀ v : Fin 7, Builtin.bitOr ((S.val : Nat) : Int) (1 * 2 ^ ((v.val : Nat) : Int).toNat) = ((S.val ||| 2 ^ v.val : Nat) : Int) := by decide +kernel
theorem bitAnd_eq : ∀ S : Fin 64, ∀ v : Fin 9, Builtin.bitAnd ((S.val : Nat) : Int) (1 * 2 ^ ((v.val : Nat) : Int).toNat) = ((S.val &&& 2 ^ v.val : Nat) : Int) := by decide +kernel
theorem bitHigh : ∀ S : Fin 64, ∀ v : Fin 9, 6 ≤ v.val → S.val &&& 2 ^ v.val = 0 := by decide +kernel
end Mine
end

theorem Mine.rs10 {M : Model} {A : Around} {Q : Nat → Shared → Prop} {E : Value → Shared → Prop} {s : Shared} (h : wpAny M A (pure 1) Q E s) : wpAny M A (pure 1) Q E s := by first | (walk1; fail) | exact h
section
open PySem PySem.W PyProof.Rows PySem.Calls
set_option Elab.async false
set_option linter.unusedVariables false
set_option linter.unusedSimpArgs false
set_option maxRecDepth 100000
set_option maxHeartbeats 2000000
set_option pp.maxSteps 1200
set_option pp.deepTerms false
namespace Mine
local macro_rules | `(tactic| units_room) => `(tactic| ktr_units)
set_option maxHeartbeats 8000000
local macro_rules | `(tactic| walk_at $s) => if s.getString == "exec For Name Call cons nil" then `(tactic| walk_at "own s3") else if s.getString == "getMethod ref" then `(tactic| walk_at "own method") else if s.getString ∈ ["call ref", "pyIter ref", "call builtin:list.append", "compareOp NotEq ref ref"] then `(tactic| refine stop_here ?_) else Lean.Macro.throwUnsupported
theorem shaped_pair {a b : Str} (ha : PyData.strOk a = true) (hb : PyData.strOk b = true) : SeqAt.shaped (.tuple [.str a, .str b]) = true := by
  simp [SeqAt.shaped, PyData.canLay0, PyData.canLayAll0, PyData.depth, PyData.depthAll, ha, hb]
theorem strs_get : ∀ {vs : List Value} {ss : List Str}, StrsAre vs ss → ∀ (i : Nat) (x : Str), ss[i]? = some x → ∃ t, vs[i]? = some (.str x t)
  | _, _, .cons m t _, 0, n, e => by simp at e; subst e; exact ⟨t, rfl⟩
  | _, _, .cons _ _ h, i + 1, n, e => by simpa using strs_get h i n (by simpa using e)
theorem known3 {m : Str → Option Value} {a b c : Str} {va vb vc : Value} (h1 : m a = some va) (h2 : m b = some vb) (h3 : m c = some vc) : m = fun z => if z = a then some va else if z = b then some vb else if z = c then some vc else m z := kstep h1 (kstep h2 (kstep h3 rfl))
theorem thrown_ok {w : World} {mean : ExcName → Option Value} {mg mb : Str → Option Value} : ∀ (dp un : Nat) (gd : Option (List Code)) (cn : Str) (cs : Scope) (a : Addr) (ccd : Value) (cl : List (Str × Addr)) (outer : List Env) (A₀ : Around) (base h₀ : Heap) (L : Addr) (m : Str → Option Value) (news : List (Addr × Obj)) (s : Shared) (Q E : Value → Shared → Prop) (lw : Addr) (wv : List Value) (words : List Str) (nw : Nat) (wd : Int) (tw : Tok) (p1 p2 : Array Value) (rest : List (Addr × Obj))
    (hnews : news = (148, tabObj p1) :: (155, tabObj p2) :: (lw, listOf wv.toArray nw) :: rest),
    ∀ (hB : Below A₀ base outer h₀) (hF : Fr h₀ L s.heap m) (hX : (Mine.top.heap_1 w.params).In h₀) (hN : News h₀ L s.heap news) (hT : Top topProg (looseW Mine.top.view_1 [Str.ofString "_safe_string", Str.ofString "_Accumulator"] ++ List.map (fun x => x.name) (recsOf Mine.top.view_1) ++ List.map (fun x => x.fst) (litsOf Mine.top.view_1) ++ List.map (fun x => x.name) (clssOf Mine.top.view_1 (looseW Mine.top.view_1 [Str.ofString "_safe_string", Str.ofString "_Accumulator"]))) mean mg mb h₀) (hk : cs.kind = .function) (hd : dp + 20 < recursionLimit) (hu : un + 600 < cLine) (hw : 0 ≤ wd ∧ wd ≤ 9) (hws : StrsAre wv words) (hwl : words.length = 5) (hwb : ∀ x ∈ words, x.length ≤ 100) (hwo : ∀ x ∈ words, PyData.strOk x = true)
    (hG : AllBare s.gens) (hT1 : TriplesOk p1.toList) (hT2 : TriplesOk p2.toList) (hr0 : ∀ p ∈ rest, p.1 ≠ 148 ∧ p.1 ≠ 155) (hlw1 : (148 : Addr) ≠ lw ∧ (155 : Addr) ≠ lw)
    (hret : ∀ tp pl ln ps np ls nl q1 q2 h' tk' g', Fr h₀ L h' m → News h₀ L h' ((tp, tupObj #[.ref pl, .ref ln]) :: (pl, listOf ps np) :: (ln, listOf ls nl) :: (148, tabObj q1) :: (155, tabObj q2) :: (lw, listOf wv.toArray nw) :: rest) →
      IntsAre ps.toList (tAt wd words 5).places → StrsAre ls.toList (tAt wd words 5).lines → AllBare g' → TriplesOk q1.toList → TriplesOk q2.toList →
      (∀ p ∈ (148, tabObj p1) :: (155, tabObj p2) :: (lw, listOf wv.toArray nw) :: rest, p.1 < ln) → (@LT.lt Nat _ ln pl) → (@LT.lt Nat _ pl tp) → Q (.ref tp) { s with heap := h', gens := g', toks := tk' }),
    wpAny (model PySem.Challenge.rw_wu0081_01.row.prog w) (ktrTop dp un gd cn cs L a ccd cl outer) (call (.ref 314) [.ref lw, .int wd tw]) Q E s := by
  k_fill
  intro dp un gd cn cs a ccd cl outer A₀ base h₀ L m news s Q E lw wv words nw wd tw p1 p2 rest hnews B F X N T hk hd hu hw hws hwl hwb hwo hG hT1 hT2 hr0 hlw1 hret
  refine absG fun G99 k99 => ?_
  subst hnews
  refine k99.go ?_
  clear k99 G99
  refine wpAny_call ?_
  k_dflt (refine' code_def ?k1 ?k2 ?k3 ?k4 ?k5 ?kA ?kF ?kK ?k6 ?k7 ?k8 ?k9 ?kB ?_ ?c2 ?c3 ?c4 ?c5; (case kA => exact rfl); (case kF => exact rfl); (case kK => assumption); (case k1 => k_asm); (case k2 => k_asm); (case k3 => k_asm); (case k4 => k_asm); (case k5 => k_asm); (case k6 => k_is); (case k7 => k_is); (case k8 => ktr_room); (case k9 => first | exact BindsTo.of_eq rfl | exact binds_K (by k_in) rfl (by k_is) rfl rfl rfl); (case c5 => decide); (case kB => exact locs rfl); (case c2 => exact rfl); (case c3 => exact rfl); (case c4 => exact rfl); k_whole; intro g' L' h' FG' F' N' B' X' T'; (try dsimp only); (try k_fold))
  k_steps
  all_goals (try unfold Stop)
  refine' mkvf_ok _ _ _ _ _ _ _ _ _ _ _ _ _ _ _ _ _ _ wd _ tw _ _ ?kB ?kF ?kX ?kN ?kT ?kk ?kd ?ku hw ?kr
  (case kB => k_asm); (case kF => k_asm); (case kX => assumption); (case kN => k_asm); (case kT => k_asm); (case kk => exact rfl); (case kd => ktr_room); (case ku => first | ktr_units | (have hcL9 := cLine_is; (try simp only [units_under_make, units_in1, units_deeper, Around.mark_units, units_caller]); (try dsimp only [ktrTop]); omega))
  case kr =>
  intro v dv ln xa dxa na ha ua za k1 k2 k3 k4 k5 k6 t5 h1 tk1 F1 N1 lo1 lo2 lo3 lo4 lo5
  refine absG fun G99 k99 => ?_
  obtain ⟨tA, tB, N1⟩ : ∃ tA tB, News g' L' h1 ((xa, accObj dxa #[] na) :: (dxa, iniOf ha ua (.int 0 za)) :: (ln, listOf #[] 0) :: (v, instObj 102 dv) :: (dv, fmtObj w.params k1 k2 k3 k4 k5 k6 wd tw tA t5 tB ln xa) :: (148, tabObj p1) :: (155, tabObj p2) :: (lw, listOf wv.toArray nw) :: rest) := ⟨_, _, N1⟩
  refine k99.go ?_
  clear k99 G99
  k_steps
  all_goals (try unfold Stop)
  rename_i hA tk2 pl hB lp hC F2 N2
  have hlw : wv.toArray.size = words.length := by rw [List.size_toArray]; exact hws.length
  refine Calls.call_len_list (l := lw) (items := wv.toArray) (N2.isList (by k_mem)) (by rw [hlw, hwl]; decide) ?_
  rw [hlw, hwl]
  k_steps
  all_goals (try unfold Stop)
  rename_i hD tkD t1 u1 v1 hR F3 N3 kD
  refine pyIter_range_K (a := 0) (b := ((5 : Nat) : Int)) (c := 1) (small_one (by decide) (by decide) (by decide) (by decide)) F3 N3 hR (fun I h4 F4 N4 nI lI zI itI => ?_)
  clear F3 N3 kD hR
  have q1 := lo1 (148, tabObj p1) (.head _)
  have q2 := lo1 (155, tabObj p2) (.tail _ (.head _))
  have q3 := lo1 (lw, listOf wv.toArray nw) (.tail _ (.tail _ (.head _)))
  have d1 : @LT.lt Nat _ dv v := lo2
  have d2 : @LT.lt Nat _ v ln := lo3
  have d3 : @LT.lt Nat _ ln dxa := lo4
  have d4 : @LT.lt Nat _ dxa xa := lo5
  have d5 : @LT.lt Nat _ xa pl := lp.1
  have d6 : @LT.lt Nat _ 148 dv := q1
  have d7 : @LT.lt Nat _ 155 dv := q2
  have d8 : @LT.lt Nat _ lw dv := q3
  have d9 : @LT.lt Nat _ v dxa := Nat.lt_trans d2 d3
  have d10 : @LT.lt Nat _ v xa := Nat.lt_trans d9 d4
  have d11 : @LT.lt Nat _ ln xa := Nat.lt_trans d3 d4
  have d12 : @LT.lt Nat _ dv ln := Nat.lt_trans d1 d2
  have d13 : @LT.lt Nat _ dv dxa := Nat.lt_trans d12 d3
  have d14 : @LT.lt Nat _ dv xa := Nat.lt_trans d13 d4
  have d15 : @LT.lt Nat _ 148 v := Nat.lt_trans d6 d1
  have d16 : @LT.lt Nat _ 148 ln := Nat.lt_trans d6 d12
  have d17 : @LT.lt Nat _ 148 dxa := Nat.lt_trans d6 d13
  have d18 : @LT.lt Nat _ 148 xa := Nat.lt_trans d6 d14
  have d19 : @LT.lt Nat _ 155 v := Nat.lt_trans d7 d1
  have d20 : @LT.lt Nat _ 155 ln := Nat.lt_trans d7 d12
  have d21 : @LT.lt Nat _ 155 dxa := Nat.lt_trans d7 d13
  have d22 : @LT.lt Nat _ 155 xa := Nat.lt_trans d7 d14
  have d23 : @LT.lt Nat _ lw ln := Nat.lt_trans d8 d12
  have d24 : @LT.lt Nat _ lw dxa := Nat.lt_trans d8 d13
  have d25 : @LT.lt Nat _ lw xa := Nat.lt_trans d8 d14
  refine for_K (Walks.range rfl I 0 1 5) (fun i h st => ⟨_, st⟩) (fun k m' nw' g9 => ∃ (ws : List WI) (ls ps : Array Value) (q1 q2 : Array Value) (na' nl' np' : Nat) (z' : Tok) (rest' : List (Addr × Obj)),
      m' "words" = some (.ref lw) ∧ m' "maker" = some (.ref v) ∧ m' "places" = some (.ref pl) ∧ nw' = (148, tabObj q1) :: (155, tabObj q2) :: (xa, accObj dxa (refsOf ws) na') :: (dxa, iniOf ha ua (.int 0 z')) :: (ln, listOf ls nl') :: (v, instObj 102 dv) :: (dv, fmtObj w.params k1 k2 k3 k4 k5 k6 wd tw tA t5 tB ln xa) :: (pl, listOf ps np') :: (lw, listOf wv.toArray nw) :: rest' ∧ AllBare g9 ∧ TriplesOk q1.toList ∧ TriplesOk q2.toList ∧
      ws.map (·.2.2.1) = (tAt wd words k).cur ∧ IntsAre ps.toList (tAt wd words k).places ∧ StrsAre ls.toList (tAt wd words k).lines ∧ (∀ p ∈ ws, (p.1, tupObj (pairVals p)) ∈ rest') ∧
      (∀ p ∈ rest', p.1 ≠ 148 ∧ p.1 ≠ 155 ∧ p.1 ≠ xa ∧ p.1 ≠ dxa ∧ p.1 ≠ ln ∧ p.1 ≠ pl) ∧ (∀ p ∈ rest, p ∈ rest')) lI zI (by simpa [rangeSize_one] using itI) F4 (fun p hp => N4 p (by
        revert p; exact (by refine allC ?_ (allC ?_ (allC ?_ (allC ?_ (allC ?_ (allC ?_ (allC ?_ (allC ?_ (allC ?_ (fun p hp => ?_))))))))) <;> first | exact mAt 0 | exact mAt 1 | exact mAt 2 | exact mAt 3 | exact mAt 4 | exact mAt 5 | exact mAt 6 | exact mAt 7 | exact mAt 8 | exact mAt 9 | exact mAt 10 | exact mAt 11 | exact mAt 12 | exact mAt 13 | exact mAt 14 | exact mTl 1 hp | exact mTl 2 hp | exact mTl 3 hp | exact mTl 4 hp | exact mTl 5 hp | exact mTl 6 hp | exact mTl 7 hp | exact mTl 8 hp | exact mTl 9 hp | exact mTl 10 hp | exact mTl 11 hp | exact mTl 12 hp | exact mTl 13 hp | exact mTl 14 hp | exact mTl 15 hp))) (fun p hp => nI p (by
        revert p; exact (by refine allC ?_ (allC ?_ (allC ?_ (allC ?_ (allC ?_ (allC ?_ (allC ?_ (allC ?_ (allC ?_ (fun p hp => ?_))))))))) <;> first | exact mAt 0 | exact mAt 1 | exact mAt 2 | exact mAt 3 | exact mAt 4 | exact mAt 5 | exact mAt 6 | exact mAt 7 | exact mAt 8 | exact mAt 9 | exact mAt 10 | exact mAt 11 | exact mAt 12 | exact mAt 13 | exact mAt 14 | exact mTl 1 hp | exact mTl 2 hp | exact mTl 3 hp | exact mTl 4 hp | exact mTl 5 hp | exact mTl 6 hp | exact mTl 7 hp | exact mTl 8 hp | exact mTl 9 hp | exact mTl 10 hp | exact mTl 11 hp | exact mTl 12 hp | exact mTl 13 hp | exact mTl 14 hp | exact mTl 15 hp)))
      (exI10 [] #[] (#[.int 0 tk2]) p1 p2 na 0 0 za rest ⟨rfl, rfl, rfl, rfl, hG, hT1, hT2, rfl, .cons _ _ .nil, .nil, (fun _ h => nomatch h), fun p hp => ?_, fun _ h => h⟩) ?_ ?_
  · have e1 : @LT.lt Nat _ p.1 dv := lo1 p (.tail _ (.tail _ (.tail _ hp)))
    exact ⟨(hr0 p hp).1, (hr0 p hp).2, Nat.ne_of_lt (Nat.lt_trans e1 d14), Nat.ne_of_lt (Nat.lt_trans e1 d13), Nat.ne_of_lt (Nat.lt_trans e1 d12), Nat.ne_of_lt (Nat.lt_trans e1 (Nat.lt_trans d14 d5))⟩
  · intro k v1 m1 nw1 h5 g5 tk5 o5 hk hP hJ F5 N5 hn5 S9 hS9 E9
    refine absG fun G99 k99 => ?_
    refine exE10 hJ fun ws ls ps q1 q2 na' nl' np' z' rest' h9z0 => ?_
    refine andE13 h9z0 fun j1 j2 j3 e9z0 jG jT1 jT2 jc jp jl jt jr jS => ?_
    clear h9z0 hJ
    subst e9z0
    obtain ⟨tk8, rfl⟩ := hP
    rw [known3 j1 j2 j3] at F5
    have hkw : k < words.length := by omega
    obtain ⟨w9, hw9⟩ : ∃ w9, words[k]? = some w9 := ⟨_, List.getElem?_eq_getElem hkw⟩
    obtain ⟨tw9, hv9⟩ := strs_get hws k w9 hw9
    refine k99.go ?_
    clear k99 G99
    rw [Int.mul_one, Int.zero_add]
    k_steps
    all_goals (try unfold Stop)
    rw [Int.toNat_natCast]
    have ew : words.getD k Str.empty = w9 := by rw [List.getD_eq_getElem?_getD, hw9]; rfl
    have ew' : words.getD k (⟨#[]⟩ : Str) = w9 := by rw [List.getD_eq_getElem?_getD, hw9]; rfl
    rw [ew]
    (with_reducible rename Fr g' _ _ _ => F6)
    (with_reducible rename News g' _ _ _ => N6)
    have tl := tAt_len wd words k
    have e1 : ws.length = (tAt wd words k).cur.length := by rw [← jc, List.length_map]
    have e2 : ls.size = (tAt wd words k).lines.length := jl.length
    have e3 : ps.size = (tAt wd words k).places.length := jp.length
    have w9b : w9.length ≤ 100 := hwb _ (List.mem_of_getElem? hw9)
    have hwb' : ∀ p ∈ ws, p.2.2.1.length ≤ 100 := fun p hp => by
      have h9 : p.2.2.1 ∈ (tAt wd words k).cur := by rw [← jc]; exact List.mem_map_of_mem (f := fun q : WI => q.2.2.1) hp
      rcases tAt_mem wd words k _ h9 with h | h
      · exact hwb _ h
      · rw [h]; decide
    have nI5 := hn5
    replace N6 : News g' L' _ ((148, tabObj q1) :: (155, tabObj q2) :: (xa, accObj dxa (refsOf ws) na') :: (dxa, iniOf ha ua (.int 0 z')) :: (ln, listOf ls nl') :: (v, instObj 102 dv) :: (dv, fmtObj w.params k1 k2 k3 k4 k5 k6 wd tw tA t5 tB ln xa) :: (pl, listOf ps np') :: (lw, listOf wv.toArray nw) :: (I, o5) :: rest') := fun p hp => N6 p (by
      revert p; exact (by refine allC ?_ (allC ?_ (allC ?_ (allC ?_ (allC ?_ (allC ?_ (allC ?_ (allC ?_ (allC ?_ (allC ?_ (fun p hp => ?_)))))))))) <;> first | exact mAt 0 | exact mAt 1 | exact mAt 2 | exact mAt 3 | exact mAt 4 | exact mAt 5 | exact mAt 6 | exact mAt 7 | exact mAt 8 | exact mAt 9 | exact mAt 10 | exact mAt 11 | exact mAt 12 | exact mAt 13 | exact mAt 14 | exact mTl 1 hp | exact mTl 2 hp | exact mTl 3 hp | exact mTl 4 hp | exact mTl 5 hp | exact mTl 6 hp | exact mTl 7 hp | exact mTl 8 hp | exact mTl 9 hp | exact mTl 10 hp | exact mTl 11 hp | exact mTl 12 hp | exact mTl 13 hp | exact mTl 14 hp | exact mTl 15 hp))
    refine' apc_ok _ _ _ _ _ _ _ _ _ _ _ _ _ _ _ _ _ _ v dv ln xa dxa ws na' ha ua z' ls nl' k1 k2 k3 k4 k5 k6 tw tA t5 tB _ wd w9 _ q1 q2 ((pl, listOf ps np') :: (lw, listOf wv.toArray nw) :: (I, o5) :: rest') rfl ?kB ?kF ?kX ?kN ?kT ?kk ?kd ?ku hw jG jT1 jT2 (fun p hp => .tail _ (.tail _ (.tail _ (jt p hp)))) ?hne ?hrr (by omega) hwb' w9b (by omega) ?kA ?kB9
    (case kB => k_asm); (case kF => k_asm); (case kX => assumption); (case kN => k_asm); (case kT => k_asm); (case kk => exact rfl); (case kd => ktr_room); (case ku => first | ktr_units | (have hcL9 := cLine_is; (try simp only [units_under_make, units_in1, units_deeper, Around.mark_units, units_caller]); (try dsimp only [ktrTop]); omega))
    case hne => exact ⟨Nat.ne_of_lt (by omega), Nat.ne_of_lt (by omega), Nat.ne_of_lt (by omega), Nat.ne_of_lt (by omega), Nat.ne_of_lt (by omega), Nat.ne_of_lt (by omega), Nat.ne_of_gt (by omega), Nat.ne_of_gt (by omega), Nat.ne_of_gt (by omega)⟩
    case hrr =>
      intro p hp
      revert p; exact (allC (by refine ⟨?_, ?_, ?_, ?_, ?_⟩ <;> k_ne) (allC (by refine ⟨?_, ?_, ?_, ?_, ?_⟩ <;> k_ne) (allC (by refine ⟨?_, ?_, ?_, ?_, ?_⟩ <;> k_ne) (allC (by
                  have hl1 : @Ne Nat 148 lw := hlw1.1
                  have hl2 : @Ne Nat 155 lw := hlw1.2
                  refine ⟨?_, ?_, ?_, ?_, ?_⟩ <;> k_ne) (allC (⟨(hn5 (148, tabObj q1) (.head _)).symm, (hn5 (155, tabObj q2) (.tail _ (.head _))).symm, (hn5 (xa, accObj dxa (refsOf ws) na') (.tail _ (.tail _ (.head _)))).symm, (hn5 (dxa, iniOf ha ua (.int 0 z')) (mAt 3)).symm, (hn5 (ln, listOf ls nl') (mAt 4)).symm⟩) (fun p hp => ⟨(jr p hp).1, (jr p hp).2.1, (jr p hp).2.2.1, (jr p hp).2.2.2.1, (jr p hp).2.2.2.2.1⟩))))))
    case kA =>
      intro nwi na9 z9 q19 q29 g9 h9 tk9 hwd9 hcond F9 N9 l9 G9 T9a T9b
      clear F6 N6
      k_steps
      all_goals (try unfold Stop)
      all_goals (with_reducible rename Fr g' _ _ _ => F10)
      all_goals (with_reducible rename News g' _ _ _ => N10)
      · exfalso
        refine absG fun G99 k99 => ?_
        obtain ⟨tl1, tl2, tl3⟩ := tl
        refine k99.go ?_
        clear k99 G99
        omega
      have hst : tAt wd words (k + 1) = ⟨(tAt wd words k).places, (tAt wd words k).lines, (tAt wd words k).cur ++ [w9]⟩ := by
        simp only [tAt, tStep, ew']
        rw [if_neg]
        rintro ⟨c1, c2⟩
        rcases hcond with c3 | c3
        · rw [rowL_of, jc] at c3; omega
        · rw [c3] at jc; exact c2 jc.symm
      refine hS9 _ (stepK (news := (148, tabObj q19) :: (155, tabObj q29) :: (xa, accObj dxa (refsOf (ws ++ [nwi])) na9) :: (dxa, iniOf ha ua (.int 0 z9)) :: (ln, listOf ls nl') :: (v, instObj 102 dv) :: (dv, fmtObj w.params k1 k2 k3 k4 k5 k6 wd tw tA t5 tB ln xa) :: (pl, listOf ps np') :: (lw, listOf wv.toArray nw) :: (nwi.1, tupObj (pairVals nwi)) :: rest') F10 (fun p hp => N10 p (by
        revert p; exact (by refine allC ?_ (allC ?_ (allC ?_ (allC ?_ (allC ?_ (allC ?_ (allC ?_ (allC ?_ (allC ?_ (allC ?_ (allC ?_ (fun p hp => ?_))))))))))) <;> first | exact mAt 0 | exact mAt 1 | exact mAt 2 | exact mAt 3 | exact mAt 4 | exact mAt 5 | exact mAt 6 | exact mAt 7 | exact mAt 8 | exact mAt 9 | exact mAt 10 | exact mAt 11 | exact mAt 12 | exact mAt 13 | exact mAt 14 | exact mTl 1 hp | exact mTl 2 hp | exact mTl 3 hp | exact mTl 4 hp | exact mTl 5 hp | exact mTl 6 hp | exact mTl 7 hp | exact mTl 8 hp | exact mTl 9 hp | exact mTl 10 hp | exact mTl 11 hp | exact mTl 12 hp | exact mTl 13 hp | exact mTl 14 hp | exact mTl 15 hp))) (fun p hp => ?_) (exI10 (ws ++ [nwi]) ls ps q19 q29 na9 nl' np' z9 ((nwi.1, tupObj (pairVals nwi)) :: rest') ⟨rfl, rfl, rfl, rfl, G9, T9a, T9b, ?_, ?_, ?_, ?_, ?_, fun p hp => .tail _ (jS p hp)⟩))
      · revert p; exact (allC (hn5 (148, tabObj q1) (.head _)) (allC (hn5 (155, tabObj q2) (.tail _ (.head _))) (allC (hn5 (xa, accObj dxa (refsOf ws) na') (.tail _ (.tail _ (.head _)))) (allC (hn5 (dxa, iniOf ha ua (.int 0 z')) (mAt 3)) (allC (hn5 (ln, listOf ls nl') (mAt 4)) (allC (hn5 (v, instObj 102 dv) (mAt 5)) (allC (hn5 (dv, fmtObj w.params k1 k2 k3 k4 k5 k6 wd tw tA t5 tB ln xa) (mAt 6)) (allC (hn5 (pl, listOf ps np') (mAt 7)) (allC (hn5 (lw, listOf wv.toArray nw) (mAt 8)) (allC (Nat.ne_of_gt (l9 (I, o5) (mAt 9))) (fun p hp => hn5 p (mTl 9 hp))))))))))))
      · rw [hst, List.map_append, jc]; simp [hwd9]
      · rw [hst]; exact jp
      · rw [hst]; exact jl
      · intro p hp
        rcases List.mem_append.mp hp with hp | hp
        · exact .tail _ (jt p hp)
        · rw [List.mem_singleton.mp hp]; exact .head _
      · intro p hp
        revert p; exact (allC (by
                  exact ⟨Nat.ne_of_gt (l9 (148, tabObj q1) (.head _)), Nat.ne_of_gt (l9 (155, tabObj q2) (.tail _ (.head _))), Nat.ne_of_gt (l9 (xa, accObj dxa (refsOf ws) na') (.tail _ (.tail _ (.head _)))), Nat.ne_of_gt (l9 (dxa, iniOf ha ua (.int 0 z')) (.tail _ (.tail _ (.tail _ (.head _))))),
                    Nat.ne_of_gt (l9 (ln, listOf ls nl') (.tail _ (.tail _ (.tail _ (.tail _ (.head _)))))), Nat.ne_of_gt (l9 (pl, listOf ps np') (.tail _ (.tail _ (.tail _ (.tail _ (.tail _ (.tail _ (.tail _ (.head _)))))))))⟩) (fun p hp => jr p hp))
    case kB9 =>
      intro nwi na9 z9 q19 q29 g9 h9 tk9 nl9 t9 hwd9 hlt hws0 F9 N9 l9 G9 T9a T9b
      clear F6 N6
      refine absG fun G99 k99 => ?_
      obtain ⟨np9, nt9, nw9, ntw9⟩ := nwi
      dsimp only at hwd9
      subst hwd9
      refine k99.go ?_
      clear k99 G99
      have jl9 : StrsAre (ls.push (.str (rowStr ws) t9)).toList ((tAt wd words k).lines ++ [rowS (tAt wd words k).cur]) := by
        rw [← jc, ← rowS_of]; exact strsAre_push jl
      k_steps
      all_goals (try unfold Stop)
      (with_reducible rename Fr g' _ _ _ => F11)
      (with_reducible rename News g' _ _ _ => N11)
      refine Calls.call_len_list (l := ln) (items := ls.push (.str (rowStr ws) t9)) (N11.isList (by k_mem)) (by rw [Array.size_push]; omega) ?_
      rw [Array.size_push]
      k_steps
      all_goals (try unfold Stop)
      all_goals (with_reducible rename Fr g' _ _ _ => F10)
      all_goals (with_reducible rename News g' _ _ _ => N10)
      · refine acc_method (X'.keeps F10.keep) (N10 _ (.tail _ (.tail _ (.head _)))).1 (N10 _ (.tail _ (.tail _ (.tail _ (.head _))))).1 f_popm f_ty146 rfl (sh_pop _ _ _) ?_
        k_steps
        all_goals (try unfold Stop)
        replace N10 : News g' L' _ ((148, tabObj q19) :: (155, tabObj q29) :: (xa, accObj dxa (([] : List Value) ++ [Value.ref np9]).toArray na9) :: (dxa, iniOf ha ua (.int 0 z9)) :: (ln, listOf (ls.push (.str (rowStr ws) t9)) nl9) :: (v, instObj 102 dv) :: (dv, fmtObj w.params k1 k2 k3 k4 k5 k6 wd tw tA t5 tB ln xa) :: (np9, tupObj (pairVals (np9, nt9, nw9, ntw9))) :: (pl, listOf ps np') :: (lw, listOf wv.toArray nw) :: (I, o5) :: rest') := N10
        refine' popa_ok _ _ _ _ _ _ _ _ _ _ _ _ _ _ _ _ _ _ xa dxa [] (.ref np9) na9 ha ua (.int 0 z9) (fun o => (148, tabObj q19) :: (155, tabObj q29) :: (xa, o) :: (dxa, iniOf ha ua (.int 0 z9)) :: (ln, listOf (ls.push (.str (rowStr ws) t9)) nl9) :: (v, instObj 102 dv) :: (dv, fmtObj w.params k1 k2 k3 k4 k5 k6 wd tw tA t5 tB ln xa) :: (np9, tupObj (pairVals (np9, nt9, nw9, ntw9))) :: (pl, listOf ps np') :: (lw, listOf wv.toArray nw) :: (I, o5) :: rest') ?kB ?kF ?kX ?kN ?kT ?kk ?kd ?ku ?kU (.tail _ (.tail _ (.head _))) (.tail _ (.tail _ (.tail _ (.head _)))) (by decide) ?kr
        (case kB => k_asm); (case kF => k_asm); (case kX => assumption); (case kN => k_asm); (case kT => k_asm); (case kk => exact rfl); (case kd => ktr_room); (case ku => first | ktr_units | (have hcL9 := cLine_is; (try simp only [units_under_make, units_in1, units_deeper, Around.mark_units, units_caller]); (try dsimp only [ktrTop]); omega))
        case kU =>
          exact UpdF.tail (show @Ne Nat 148 xa by k_ne) (UpdF.tail (show @Ne Nat 155 xa by k_ne) (UpdF.head fun p hp => by
            revert p; exact (allC (by show @Ne Nat dxa xa; k_ne) (allC (by show @Ne Nat ln xa; k_ne) (allC (by show @Ne Nat v xa; k_ne) (allC (by show @Ne Nat dv xa; k_ne) (allC (Nat.ne_of_gt (l9 (xa, accObj dxa (refsOf ws) na') (.tail _ (.tail _ (.head _))))) (allC (by show @Ne Nat pl xa; k_ne) (allC (by show @Ne Nat lw xa; k_ne) (allC ((hn5 (xa, accObj dxa (refsOf ws) na') (.tail _ (.tail _ (.head _)))).symm) (fun p hp => (jr p hp).2.2.1)))))))))))
        case kr =>
        intro h12 tk12 n12 F12 N12
        clear F10 N10
        k_steps
        all_goals (try unfold Stop)
        (with_reducible rename Fr g' _ _ _ => F13)
        (with_reducible rename News g' _ _ _ => N13)
        rw [Int.toNat_natCast, ew] at N13
        have hnp : (np9, tupObj (pairVals (np9, nt9, nw9, ntw9))) ∈ (148, tabObj q19) :: (155, tabObj q29) :: (xa, accObj dxa (([] : List Value).toArray) n12) :: (dxa, iniOf ha ua (.int 0 z9)) :: (ln, listOf (ls.push (.str (rowStr ws) t9)) nl9) :: (v, instObj 102 dv) :: (dv, fmtObj w.params k1 k2 k3 k4 k5 k6 wd tw tA t5 tB ln xa) :: (np9, tupObj (pairVals (np9, nt9, nw9, ntw9))) :: (pl, listOf ps np') :: (lw, listOf wv.toArray nw) :: (I, o5) :: rest' := .tail _ (.tail _ (.tail _ (.tail _ (.tail _ (.tail _ (.tail _ (.head _)))))))
        refine ne_dataH (reads_tuple_at (N13 _ (.tail _ hnp)).1 rfl rfl (.cons (.str " " nt9) (.cons (.str nw9 ntw9) .nil))) (reads_tuple_at (N13 _ (.head _)).1 rfl rfl (.cons (.str _ _) (.cons (.str _ _) .nil))) (shaped_pair (by decide +kernel) (hwo _ (List.mem_of_getElem? hw9))) (shaped_pair (by decide +kernel) (hwo _ (List.mem_of_getElem? hw9))) (by ktr_units) ?_
        ke_norm
        k_steps
        all_goals (try unfold Stop)
        (with_reducible rename Fr g' _ _ _ => F14)
        (with_reducible rename News g' _ _ _ => N14)
        replace N14 : News g' L' _ ((148, tabObj q19) :: (155, tabObj q29) :: (xa, accObj dxa (([] : List Value).toArray) n12) :: (dxa, iniOf ha ua (.int 0 z9)) :: (ln, listOf (ls.push (.str (rowStr ws) t9)) nl9) :: (v, instObj 102 dv) :: (dv, fmtObj w.params k1 k2 k3 k4 k5 k6 wd tw tA t5 tB ln xa) :: (np9, tupObj (pairVals (np9, nt9, nw9, ntw9))) :: (pl, listOf ps np') :: (lw, listOf wv.toArray nw) :: (I, o5) :: rest') := fun p hp => N14 p (.tail _ hp)
        have U14 : UpdF pl (listOf ps np') ((148, tabObj q19) :: (155, tabObj q29) :: (xa, accObj dxa (([] : List Value).toArray) n12) :: (dxa, iniOf ha ua (.int 0 z9)) :: (ln, listOf (ls.push (.str (rowStr ws) t9)) nl9) :: (v, instObj 102 dv) :: (dv, fmtObj w.params k1 k2 k3 k4 k5 k6 wd tw tA t5 tB ln xa) :: (np9, tupObj (pairVals (np9, nt9, nw9, ntw9))) :: (pl, listOf ps np') :: (lw, listOf wv.toArray nw) :: (I, o5) :: rest') (fun o => (148, tabObj q19) :: (155, tabObj q29) :: (xa, accObj dxa (([] : List Value).toArray) n12) :: (dxa, iniOf ha ua (.int 0 z9)) :: (ln, listOf (ls.push (.str (rowStr ws) t9)) nl9) :: (v, instObj 102 dv) :: (dv, fmtObj w.params k1 k2 k3 k4 k5 k6 wd tw tA t5 tB ln xa) :: (np9, tupObj (pairVals (np9, nt9, nw9, ntw9))) :: (pl, o) :: (lw, listOf wv.toArray nw) :: (I, o5) :: rest') := by
          refine UpdF.tail (show @Ne Nat 148 pl by k_ne) ?_
          refine UpdF.tail (show @Ne Nat 155 pl by k_ne) ?_
          refine UpdF.tail (show @Ne Nat xa pl by k_ne) ?_
          refine UpdF.tail (show @Ne Nat dxa pl by k_ne) ?_
          refine UpdF.tail (show @Ne Nat ln pl by k_ne) ?_
          refine UpdF.tail (show @Ne Nat v pl by k_ne) ?_
          refine UpdF.tail (show @Ne Nat dv pl by k_ne) ?_
          refine UpdF.tail (Nat.ne_of_gt (l9 (pl, listOf ps np') (.tail _ (.tail _ (.tail _ (.tail _ (.tail _ (.tail _ (.tail _ (.head _)))))))))) ?_
          refine UpdF.head fun p hp => ?_
          revert p; exact (allC (by show @Ne Nat lw pl; k_ne) (allC ((hn5 (pl, listOf ps np') (mAt 7)).symm) (fun p hp => (jr p hp).2.2.2.2.2)))
        refine append_K F14 N14 U14 (by omega) fun h16 n16 F16 N16 => ?_
        k_steps
        all_goals (try unfold Stop)
        all_goals (with_reducible rename Fr g' _ _ _ => F17)
        all_goals (with_reducible rename News g' _ _ _ => N17)
        have hst : tAt wd words (k + 1) = ⟨(tAt wd words k).places ++ [(k : Int) + 1], (tAt wd words k).lines ++ [rowS (tAt wd words k).cur], []⟩ := by
          simp only [tAt, tStep, ew']
          rw [if_pos]
          refine ⟨?_, fun e => hws0 (List.map_eq_nil_iff.mp (jc.trans e))⟩
          rw [rowL_of, jc] at hlt; omega
        refine absG fun G99 k99 => ?_
        obtain ⟨tq, N17⟩ : ∃ tq, News g' L' h16 ((148, tabObj q19) :: (155, tabObj q29) :: (xa, accObj dxa (refsOf []) n12) :: (dxa, iniOf ha ua (.int 0 z9)) :: (ln, listOf (ls.push (.str (rowStr ws) t9)) nl9) :: (v, instObj 102 dv) :: (dv, fmtObj w.params k1 k2 k3 k4 k5 k6 wd tw tA t5 tB ln xa) :: (np9, tupObj (pairVals (np9, nt9, nw9, ntw9))) :: (pl, listOf (ps.push (.int ((k : Int) + 1) tq)) n16) :: (lw, listOf wv.toArray nw) :: (I, o5) :: rest') := ⟨_, N17⟩
        refine k99.go ?_
        clear k99 G99
        refine hS9 _ (stepK (news := (148, tabObj q19) :: (155, tabObj q29) :: (xa, accObj dxa (refsOf []) n12) :: (dxa, iniOf ha ua (.int 0 z9)) :: (ln, listOf (ls.push (.str (rowStr ws) t9)) nl9) :: (v, instObj 102 dv) :: (dv, fmtObj w.params k1 k2 k3 k4 k5 k6 wd tw tA t5 tB ln xa) :: (pl, listOf (ps.push (.int ((k : Int) + 1) tq)) n16) :: (lw, listOf wv.toArray nw) :: rest') F17 (fun p hp => N17 p ?_) (fun p hp => ?_) (exI10 [] (ls.push (.str (rowStr ws) t9)) (ps.push (.int ((k : Int) + 1) tq)) q19 q29 n12 nl9 n16 z9 rest' ⟨rfl, rfl, rfl, rfl, G9, T9a, T9b, by rw [hst]; rfl, ?_, ?_, (fun _ h => nomatch h), jr, jS⟩))
        · revert p; exact allC (mAt 10) (allC (mAt 0) (allC (mAt 1) (allC (mAt 2) (allC (mAt 3) (allC (mAt 4) (allC (mAt 5) (allC (mAt 6) (allC (mAt 8) (allC (mAt 9) fun p hp => mTl 11 hp)))))))))
        · revert p; exact (allC (hn5 (148, tabObj q1) (.head _)) (allC (hn5 (155, tabObj q2) (.tail _ (.head _))) (allC (hn5 (xa, accObj dxa (refsOf ws) na') (.tail _ (.tail _ (.head _)))) (allC (hn5 (dxa, iniOf ha ua (.int 0 z')) (mAt 3)) (allC (hn5 (ln, listOf ls nl') (mAt 4)) (allC (hn5 (v, instObj 102 dv) (mAt 5)) (allC (hn5 (dv, fmtObj w.params k1 k2 k3 k4 k5 k6 wd tw tA t5 tB ln xa) (mAt 6)) (allC (hn5 (pl, listOf ps np') (mAt 7)) (allC (hn5 (lw, listOf wv.toArray nw) (mAt 8)) (fun p hp => (hn5 p (mTl 9 hp))))))))))))
        · rw [hst]; exact intsAre_push jp
        · rw [hst]; exact jl9
      · exfalso
        refine absG fun G99 k99 => ?_
        obtain ⟨tl1, tl2, tl3⟩ := tl
        refine k99.go ?_
        clear k99 G99
        omega
  · intro m1 nw1 h5 g5 tk5 hJ F5 N5
    refine absG fun G99 k99 => ?_
    refine exE10 hJ fun ws ls ps q1 q2 na' nl' np' z' rest' h9z0 => ?_
    refine andE13 h9z0 fun j1 j2 j3 e9z0 jG jT1 jT2 jc jp jl jt jr jS => ?_
    clear h9z0 hJ
    subst e9z0
    refine k99.go ?_
    clear k99 G99
    rw [known3 j1 j2 j3] at F5
    k_steps
    all_goals (try unfold Stop)
    (with_reducible rename Fr h₀ L _ m => F8)
    (with_reducible rename News h₀ L _ _ => N8)
    (with_reducible rename _ ∧ _ => l8)
    refine hret _ pl ln ps np' ls nl' q1 q2 _ _ _ F8 (fun p hp => N8 p ?_) jp jl jG jT1 jT2 (fun p hp => ?_) (show @LT.lt Nat _ ln pl by omega) l8.2.2.2.2.2.2.2.1
    · revert p
      refine allC ?_ (allC ?_ (allC ?_ (allC ?_ (allC ?_ (allC ?_ (fun p hp => ?_)))))) <;> first | exact mAt 0 | exact mAt 1 | exact mAt 2 | exact mAt 3 | exact mAt 4 | exact mAt 5 | exact mAt 6 | exact mAt 7 | exact mAt 8 | exact mAt 9 | exact mAt 10 | exact mTl 10 (jS _ hp) | exact mTl 11 (jS _ hp)
    · have e1 : @LT.lt Nat _ p.1 dv := lo1 p hp
      exact Nat.lt_trans e1 d12
end Mine
end

theorem Mine.rs11 {M : Model} {A : Around} {Q : Nat → Shared → Prop} {E : Value → Shared → Prop} {s : Shared} (h : wpAny M A (pure 1) Q E s) : wpAny M A (pure 1) Q E s := by first | (walk1; fail) | exact h
section
open PySem PySem.W PyProof.Rows PySem.Calls
set_option Elab.async false
set_option linter.unusedVariables false
set_option linter.unusedSimpArgs false
set_option maxRecDepth 100000
set_option maxHeartbeats 2000000
set_option pp.maxSteps 1200
set_option pp.deepTerms false
namespace Mine
set_option maxHeartbeats 12000000
local macro_rules | `(tactic| walk_at $s) => if s.getString == "exec" then `(tactic| walk_at "own s0") else if s.getString == "exec For Name Call cons nil" then `(tactic| walk_at "own s3") else if s.getString ∈ ["pyIter ref", "call ref", "call builtin:len"] then `(tactic| refine stop_here ?_) else if s.getString ∈ ["subscriptTail", "subscriptTail Name Name ref int"] then `(tactic| walk_at "own item") else if s.getString == "getMethod ref" then `(tactic| walk_at "own method") else Lean.Macro.throwUnsupported
theorem powB : ∀ v : Fin 9, 0 ≤ (1 * 2 ^ ((v.val : Nat) : Int).toNat : Int) ∧ (1 * 2 ^ ((v.val : Nat) : Int).toNat : Int) < 1000 := by decide +kernel
theorem mexF_end {S v : Nat} (h : S &&& 2 ^ v = 0) : ∀ k, mexF S k v = v
  | 0 => rfl
  | k + 1 => by rw [mexF, if_neg (fun q => q h)]
theorem vals_ok {w : World} {mean : ExcName → Option Value} {mg mb : Str → Option Value} : ∀ (dp un : Nat) (gd : Option (List Code)) (cn : Str) (cs : Scope) (a : Addr) (ccd : Value) (cl : List (Str × Addr)) (outer : List Env) (A₀ : Around) (base h₀ : Heap) (L : Addr) (m : Str → Option Value) (news : List (Addr × Obj)) (s : Shared) (Q E : Value → Shared → Prop) (lw : Addr) (wv : List Value) (words : List Str) (nw : Nat) (wd : Int) (tw : Tok) (p1 : Array Value) (rest : List (Addr × Obj))
    (hnews : news = (148, tabObj p1) :: (lw, listOf wv.toArray nw) :: rest),
    ∀ (hB : Below A₀ base outer h₀) (hF : Fr h₀ L s.heap m) (hX : (Mine.top.heap_1 w.params).In h₀) (hN : News h₀ L s.heap news) (hT : Top topProg (looseW Mine.top.view_1 [Str.ofString "_safe_string", Str.ofString "_Accumulator"] ++ List.map (fun x => x.name) (recsOf Mine.top.view_1) ++ List.map (fun x => x.fst) (litsOf Mine.top.view_1) ++ List.map (fun x => x.name) (clssOf Mine.top.view_1 (looseW Mine.top.view_1 [Str.ofString "_safe_string", Str.ofString "_Accumulator"]))) mean mg mb h₀) (hk : cs.kind = .function) (hd : dp + 20 < recursionLimit) (hu : un + 600 < cLine) (hw : 0 ≤ wd ∧ wd ≤ 9) (hws : StrsAre wv words) (hwl : words.length = 5) (hwb : ∀ x ∈ words, x.length ≤ 100)
    (hG : AllBare s.gens) (hT1 : TriplesOk p1.toList) (hr0 : ∀ p ∈ rest, p.1 ≠ 148) (hlw1 : (148 : Addr) ≠ lw)
    (hret : ∀ r vs n q1 h' tk' g', Fr h₀ L h' m → News h₀ L h' ((r, listOf vs n) :: (148, tabObj q1) :: (lw, listOf wv.toArray nw) :: rest) → IntsAre vs.toList ((valN words wd 6).map fun (x : Nat) => (x : Int)) → AllBare g' → TriplesOk q1.toList → (∀ p ∈ (148, tabObj p1) :: (lw, listOf wv.toArray nw) :: rest, p.1 ≠ r) → Q (.ref r) { s with heap := h', gens := g', toks := tk' }),
    wpAny (model PySem.Challenge.rw_wu0081_01.row.prog w) (ktrTop dp un gd cn cs L a ccd cl outer) (call (.ref 321) [.ref lw, .int wd tw]) Q E s := by
  k_fill
  intro dp un gd cn cs a ccd cl outer A₀ base h₀ L m news s Q E lw wv words nw wd tw p1 rest hnews B F X N T hk hd hu hw hws hwl hwb hG hT1 hr0 hlw1 hret
  refine absG fun G99 k99 => ?_
  subst hnews
  refine k99.go ?_
  clear k99 G99
  have hH : HidP (StrsAre wv words) := ⟨hws⟩
  clear hws
  refine wpAny_call ?_
  k_dflt (refine' code_def ?k1 ?k2 ?k3 ?k4 ?k5 ?kA ?kF ?kK ?k6 ?k7 ?k8 ?k9 ?kB ?_ ?c2 ?c3 ?c4 ?c5; (case kA => exact rfl); (case kF => exact rfl); (case kK => assumption); (case k1 => k_asm); (case k2 => k_asm); (case k3 => k_asm); (case k4 => k_asm); (case k5 => k_asm); (case k6 => k_is); (case k7 => k_is); (case k8 => ktr_room); (case k9 => first | exact BindsTo.of_eq rfl | exact binds_K (by k_in) rfl (by k_is) rfl rfl rfl); (case c5 => decide); (case kB => exact locs rfl); (case c2 => exact rfl); (case c3 => exact rfl); (case c4 => exact rfl); k_whole; intro g' L' h' FG' F' N' B' X' T'; (try dsimp only); (try k_fold))
  k_steps
  all_goals (try unfold Stop)
  (with_reducible rename News g' L' _ _ => N1)
  (with_reducible rename _ ∧ _ => lp)
  rename_i vl _ _ _
  have hlw : wv.toArray.size = words.length := by rw [List.size_toArray]; exact hH.out.length
  refine Calls.call_len_list (l := lw) (items := wv.toArray) (N1.isList (by k_mem)) (by rw [hlw, hwl]; decide) ?_
  rw [hlw, hwl]
  clear hlw
  k_steps
  all_goals (try unfold Stop)
  (with_reducible rename IsRange _ _ _ _ _ _ _ _ => hR)
  (with_reducible rename Fr g' L' _ _ => F3)
  (with_reducible rename News g' L' _ _ => N3)
  refine pyIter_range_K (a := 0) (b := 6) (c := 1) (small_one (by decide) (by decide) (by decide) (by decide)) F3 N3 hR (fun I h4 F4 N4 nI lI zI itI => ?_)
  clear F3 N3 hR
  have nvl : ∀ p ∈ rest, p.1 ≠ vl := fun p hp => Nat.ne_of_lt (lt_of_all lp.2.2 p hp)
  have c1 : @Ne Nat 148 vl := Nat.ne_of_lt lp.1
  have c2 : @Ne Nat lw vl := Nat.ne_of_lt lp.2.1
  have c3 : @Ne Nat 148 lw := hlw1
  refine for_K (Walks.range rfl I 0 1 6) (fun i h st => ⟨_, st⟩) (fun k m' nw' g9 => m' "words" = some (.ref lw) ∧ m' "width" = some (.int wd tw) ∧ m' "values" = some (.ref vl) ∧ ∃ (q1 : Array Value) (vs : List Value) (nv : Nat),
      nw' = (vl, listOf vs.toArray nv) :: (148, tabObj q1) :: (lw, listOf wv.toArray nw) :: rest ∧ IntsAre vs ((valN words wd k).map fun (x : Nat) => (x : Int)) ∧ AllBare g9 ∧ TriplesOk q1.toList) lI zI itI F4 N4 nI
      ⟨rfl, rfl, rfl, exI3 p1 [] 0 ⟨rfl, .nil, hG, hT1⟩⟩ ?_ ?_
  · intro j v1 m1 nw1 h5 g5 tk5 o5 hj9 hP hJ F5 N5 hn5 S9 hS9 E9
    refine absG fun G99 k99 => ?_
    refine andE4 hJ fun j1 j2 j3 h9z0 => ?_
    refine exE3 h9z0 fun q1 vs nv h9z1 => ?_
    refine andE4 h9z1 fun e9z0 jv jG jT => ?_
    clear h9z1 h9z0 hJ
    subst e9z0
    obtain ⟨tk8, rfl⟩ := hP
    refine k99.go ?_
    clear k99 G99
    rw [known3w j1 j2 j3] at F5
    rw [Int.mul_one, Int.zero_add]
    k_steps
    all_goals (try unfold Stop)
    refine' mkac_ok _ _ _ _ _ _ _ _ _ _ _ _ _ _ _ _ _ _ [] (.inl rfl) ?kB ?kF ?kX ?kN ?kT ?kk ?kd ?ku ?kr
    (case kB => k_asm); (case kF => k_asm); (case kX => assumption); (case kN => k_asm); (case kT => k_asm); (case kk => exact rfl); (case kd => ktr_room); (case ku => first | ktr_units | (have hcL9 := cLine_is; (try simp only [units_under_make, units_in1, units_deeper, Around.mark_units, units_caller]); (try dsimp only [ktrTop]); omega))
    case kr =>
    intro x dx na0 hs u z h6 tk6 F6 N6 lx1 lx2
    have x1 : @Ne Nat dx x := Nat.ne_of_lt lx2
    have xl : ∀ p ∈ (I, o5) :: (vl, listOf vs.toArray nv) :: (148, tabObj q1) :: (lw, listOf wv.toArray nw) :: rest, (@LT.lt Nat _ p.1 dx) ∧ (@LT.lt Nat _ p.1 x) := fun p hp => ⟨lx1 p hp, Nat.lt_trans (lx1 p hp) lx2⟩
    have y1 := xl (I, o5) (.head _)
    have y2 := xl (vl, listOf vs.toArray nv) (.tail _ (.head _))
    have y3 := xl (148, tabObj q1) (.tail _ (.tail _ (.head _)))
    have y4 := xl (lw, listOf wv.toArray nw) (.tail _ (.tail _ (.tail _ (.head _))))
    have z1 : @Ne Nat vl I := hn5 _ (.head _)
    have z2 : @Ne Nat 148 I := hn5 (148, tabObj q1) (.tail _ (.head _))
    have z3 : @Ne Nat lw I := hn5 _ (.tail _ (.tail _ (.head _)))
    k_steps
    all_goals (try unfold Stop)
    (with_reducible rename Fr g' L' _ _ => F7)
    (with_reducible rename News g' L' _ _ => N7)
    replace N7 : News g' L' _ ((x, accObj dx (refsOf []) na0) :: (dx, iniOf hs u (.int 0 z)) :: (148, tabObj q1) :: (I, o5) :: (vl, listOf vs.toArray nv) :: (lw, listOf wv.toArray nw) :: rest) := fun p hp => N7 p (by
      revert p; exact (allC (.head _) (allC (.tail _ (.head _)) (allC (mAt 4) (allC (.tail _ (.tail _ (.head _))) (allC (mAt 3) (allC (mAt 5) (fun p hp => (mTl 6 hp)))))))))
    refine codeAny_mono (R := fun r s' => HidP (r = .ok .next ∧ ∃ h' m' g2 tk2 q2 ts, s' = { s with heap := h', gens := g2, toks := tk2 } ∧ Fr g' L' h' m' ∧ News g' L' h' ((I, o5) :: (vl, listOf vs.toArray nv) :: (148, tabObj q2) :: (lw, listOf wv.toArray nw) :: rest) ∧
      m' "words" = some (.ref lw) ∧ m' "width" = some (.int wd tw) ∧ m' "values" = some (.ref vl) ∧ m' "seen" = some (.int ((seenF words wd (valN words wd j) j [] 0 : Nat) : Int) ts) ∧ AllBare g2 ∧ TriplesOk q2.toList)) ?loop ?after
    case loop =>
      refine codeAny_abs fun R9 hR9 => ?_
      refine while_K (fun h m' nw' g9 => ∃ (ws : List WI) (na S : Nat) (q2 : Array Value) (extra : List (Addr × Obj)) (t1 t2 : Tok), m' "words" = some (.ref lw) ∧ m' "width" = some (.int wd tw) ∧ m' "values" = some (.ref vl) ∧ m' "taken" = some (.ref x) ∧ m' "seen" = some (.int (S : Int) t1) ∧ m' "h" = some (.int ((h : Nat) : Int) t2) ∧
        nw' = (x, accObj dx (refsOf ws) na) :: (dx, iniOf hs u (.int 0 z)) :: (148, tabObj q2) :: (I, o5) :: (vl, listOf vs.toArray nv) :: (lw, listOf wv.toArray nw) :: extra ∧ (∀ p ∈ ws, (p.1, tupObj (pairVals p)) ∈ extra) ∧ (∀ p ∈ rest, p ∈ extra) ∧ (∀ p ∈ extra, p.1 ≠ 148) ∧ (∀ p ∈ extra, p.1 ≠ x) ∧
        AllBare g9 ∧ TriplesOk q2.toList ∧ S < 64 ∧ ws.length + h = j ∧ (∀ p ∈ ws, p.2.2.1.length ≤ 100) ∧ seenF words wd (valN words wd j) h (ws.map (·.2.2.1)) S = seenF words wd (valN words wd j) j [] 0) j F7 N7
        (exI7 [] na0 0 q1 rest _ _ ⟨rfl, rfl, rfl, rfl, rfl, rfl, rfl, (fun _ h => nomatch h), fun _ h => h, hr0, fun p hp => Nat.ne_of_lt (xl p (.tail _ (.tail _ (.tail _ (.tail _ hp))))).2, jG, jT, by decide, by simp, (fun _ h => nomatch h), rfl⟩) ?_
      intro h m2 nw2 h8 g8 tk8 hJ F8 N8 S9 hS9 E9
      refine absG fun G99 k99 => ?_
      refine exE7 hJ fun ws na S q2 extra t1 t2 h9z0 => ?_
      refine andE17 h9z0 fun e1 e2 e3 e4 e5 e6 e9z0 eW eR eN eX eG eT eS eL eB eQ => ?_
      clear h9z0 hJ
      subst e9z0
      refine k99.go ?_
      clear k99 G99
      rw [known6 e1 e2 e3 e4 e5 e6] at F8
      (try clear F7 N7); (try clear F6 N6); (try clear F5 N5); (try clear F4 N4)
      cases h with
      | zero =>
        k_steps
        all_goals (try unfold Stop)
        refine hR9 _ _ ⟨rfl, _, _, _, _, q2, t1, rfl, F8, fun p hp => N8 p ?_, rfl, rfl, rfl, ?_, eG, eT⟩
        · revert p; exact (allC (mAt 3) (allC (mAt 4) (allC (.tail _ (.tail _ (.head _))) (allC (mAt 5) (fun p hp => (.tail _ (.tail _ (.tail _ (.tail _ (.tail _ (.tail _ (eR p hp))))))))))))
        · rw [← eQ]; rfl
      | succ h =>
        have hhl : h < words.length := by omega
        refine absG fun G99 k99 => ?_
        obtain ⟨w9, hw9⟩ : ∃ w9, words[h]? = some w9 := ⟨_, List.getElem?_eq_getElem hhl⟩
        obtain ⟨tw9, hv9⟩ := strs_get hH.out h w9 hw9
        have hx1 : wv.toArray[((h : Nat) : Int).toNat]? = some (.str w9 tw9) := by simpa using hv9
        have w9b : w9.length ≤ 100 := hwb _ (List.mem_of_getElem? hw9)
        have ew : words.getD h ⟨#[]⟩ = w9 := by rw [List.getD_eq_getElem?_getD, hw9]; rfl
        have hvl := valN_len words wd j
        have hvb := valN_le words wd j (by omega) h (by omega)
        obtain ⟨tv9, hvv⟩ := jv.get h ((valN words wd j).getD h 0 : Nat) (by simp [List.getD_eq_getElem?_getD, hvl, show h < j by omega])
        refine k99.go ?_
        clear k99 G99
        have hx2 : vs.toArray[((h : Nat) : Int).toNat]? = some (.int (((valN words wd j).getD h 0 : Nat) : Int) tv9) := by simpa using hvv
        generalize hV : (valN words wd j).getD h 0 = V9 at hvb hx2
        k_steps
        all_goals (try unfold Stop)
        refine' isub_ok _ _ _ _ _ _ _ _ _ _ _ _ _ _ _ _ _ _ _ _ _ _ ?kB ?kF ?kX ?kN ?kT ?kk ?kd ?ku ⟨by omega, by omega⟩ ⟨by omega, by omega⟩ ?kr
        (case kB => k_asm); (case kF => k_asm); (case kX => assumption); (case kN => k_asm); (case kT => k_asm); (case kk => exact rfl); (case kd => ktr_room); (case ku => first | ktr_units | (have hcL9 := cLine_is; (try simp only [units_under_make, units_in1, units_deeper, Around.mark_units, units_caller]); (try dsimp only [ktrTop]); omega))
        case kr =>
        intro r9 h9 tk9 F9 N9
        rw [Int.natCast_succ, Int.add_sub_cancel]
        k_steps
        all_goals (try unfold Stop)
        (with_reducible rename Fr g' L' _ _ => F10)
        (with_reducible rename News g' L' _ _ => N10)
        refine acc_method (X'.keeps F10.keep) (N10 _ (.head _)).1 (N10 _ (.tail _ (.head _))).1 f_push f_ty130 rfl (sh_push _ _ _) ?_
        k_steps
        all_goals (try unfold Stop)
        refine' push_ok _ _ _ _ _ _ _ _ _ _ _ _ _ _ _ _ _ _ x dx (refsOf ws) na hs u (.int 0 z) (fun o => (x, o) :: (dx, iniOf hs u (.int 0 z)) :: (148, tabObj q2) :: (I, o5) :: (vl, listOf vs.toArray nv) :: (lw, listOf wv.toArray nw) :: extra) _ _ _ _ ?kB ?kF ?kX ?kN ?kT ?kk ?kd ?ku ?kU (.head _) (.tail _ (.head _)) (by simp [refsOf]; omega) ?kr
        (case kB => k_asm); (case kF => k_asm); (case kX => assumption); (case kN => k_asm); (case kT => k_asm); (case kk => exact rfl); (case kd => ktr_room); (case ku => first | ktr_units | (have hcL9 := cLine_is; (try simp only [units_under_make, units_in1, units_deeper, Around.mark_units, units_caller]); (try dsimp only [ktrTop]); omega))
        case kU =>
          refine UpdF.head fun p hp => ?_
          revert p; exact (allC (x1) (allC (Nat.ne_of_lt y3.2) (allC (Nat.ne_of_lt y1.2) (allC (Nat.ne_of_lt y2.2) (allC (Nat.ne_of_lt y4.2) (fun p hp => (eX p hp)))))))
        case kr =>
        intro tp h11 tk11 na11 F11 N11 l11
        refine absG fun G99 k99 => ?_
        obtain ⟨tb, N11⟩ : ∃ tb, News g' L' _ ((tp, tupObj #[.str (PySem.Str.ofString " ") tb, .str w9 tw9]) :: (x, accObj dx ((refsOf ws).push (.ref tp)) na11) :: (dx, iniOf hs u (.int 0 z)) :: (148, tabObj q2) :: (I, o5) :: (vl, listOf vs.toArray nv) :: (lw, listOf wv.toArray nw) :: extra) := ⟨_, N11⟩
        refine k99.go ?_
        clear k99 G99
        rw [refs_push ws (tp, tb, w9, tw9)] at N11
        replace N11 : News g' L' _ ((148, tabObj q2) :: (x, accObj dx (refsOf (ws ++ [(tp, tb, w9, tw9)])) na11) :: (dx, iniOf hs u (.int 0 z)) :: (I, o5) :: (vl, listOf vs.toArray nv) :: (lw, listOf wv.toArray nw) :: (tp, tupObj #[.str (PySem.Str.ofString " ") tb, .str w9 tw9]) :: extra) := fun p hp => N11 p (by
          revert p; exact (allC (mAt 3) (allC (.tail _ (.head _)) (allC (.tail _ (.tail _ (.head _))) (allC (mAt 4) (allC (mAt 5) (allC (mAt 6) (allC (.head _) (fun p hp => (mTl 7 hp))))))))))
        have hWl : (ws ++ [(tp, tb, w9, tw9)]).length = ws.length + 1 := by simp
        have hWb : ∀ p ∈ ws ++ [(tp, tb, w9, tw9)], p.2.2.1.length ≤ 100 := fun p hp => by
          rcases List.mem_append.mp hp with hp | hp
          · exact eB p hp
          · rw [List.mem_singleton.mp hp]; exact w9b
        have hWt : ∀ p ∈ ws ++ [(tp, tb, w9, tw9)], (p.1, tupObj (pairVals p)) ∈ (tp, tupObj #[.str (PySem.Str.ofString " ") tb, .str w9 tw9]) :: extra := fun p hp => by
          rcases List.mem_append.mp hp with hp | hp
          · exact .tail _ (eW p hp)
          · rw [List.mem_singleton.mp hp]; exact .head _
        have hWm : (ws ++ [(tp, tb, w9, tw9)]).map (fun q : WI => q.2.2.1) = ws.map (fun q : WI => q.2.2.1) ++ [w9] := by simp
        have hWr := rowL_of (ws ++ [(tp, tb, w9, tw9)])
        rw [hWm] at hWr
        generalize ws ++ [(tp, tb, w9, tw9)] = WS at N11 hWl hWb hWt hWm hWr
        k_steps
        all_goals (try unfold Stop)
        (with_reducible rename Fr g' L' _ _ => F12)
        (with_reducible rename News g' L' _ _ => N12)
        refine len_K F12 X' (acc_inst (N12 _ (.tail _ (.head _))).1 (N12 _ (.tail _ (.tail _ (.head _)))).1) f_lenf f_lenfn ?_
        have hnt : ∀ p ∈ (x, accObj dx (refsOf WS) na11) :: (dx, iniOf hs u (.int 0 z)) :: (I, o5) :: (vl, listOf vs.toArray nv) :: (lw, listOf wv.toArray nw) :: (tp, tupObj #[.str (PySem.Str.ofString " ") tb, .str w9 tw9]) :: extra, p.1 ≠ 148 := fun p hp => by
          revert p; exact (allC (Nat.ne_of_gt y3.2) (allC (Nat.ne_of_gt y3.1) (allC (fun e => z2 e.symm) (allC (fun e => c1 e.symm) (allC (fun e => c3 e.symm) (allC (Nat.ne_of_gt (l11 (148, tabObj q2) (.tail _ (.tail _ (.head _))))) (fun p hp => (eN p hp))))))))
        refine' lena_ok _ _ _ _ _ _ _ _ _ _ _ _ _ _ _ _ _ _ x dx WS na11 hs u z q2 ?kB ?kF ?kX ?kN ?kT ?kk ?kd ?ku eG eT (.head _) (.tail _ (.head _)) (fun p hp => .tail _ (.tail _ (.tail _ (.tail _ (.tail _ (hWt p hp)))))) hnt (by omega) (fun p hp => Nat.le_trans (hWb p hp) (by decide)) ?kr
        (case kB => k_asm); (case kF => k_asm); (case kX => assumption); (case kN => k_asm); (case kT => k_asm); (case kk => exact rfl); (case kd => ktr_room); (case ku => first | ktr_units | (have hcL9 := cLine_is; (try simp only [units_under_make, units_in1, units_deeper, Around.mark_units, units_caller]); (try dsimp only [ktrTop]); omega))
        case kr =>
        intro r12 h12 tk12 g12 q12 F13 N13 G12 T12
        have bW := rowLen_bound WS fun p hp => Nat.le_trans (hWb p hp) (by decide)
        refine ⟨⟨bW.1, by omega⟩, ?_⟩
        clear N12 F12 N11 hnt
        rcases Int.lt_or_le wd (rowLen WS) with hgt | hle
        · k_steps
          all_goals (try unfold Stop)
          (with_reducible rename Fr g' L' _ _ => F14)
          (with_reducible rename News g' L' _ _ => N14)
          refine acc_method (X'.keeps F14.keep) (N14 _ (.tail _ (.head _))).1 (N14 _ (.tail _ (.tail _ (.head _)))).1 f_pcount f_ty183 rfl (sh_pcount _ _ _) ?_
          k_steps
          all_goals (try unfold Stop)
          refine' pcount_ok _ _ _ _ _ _ _ _ _ _ _ _ _ _ _ _ _ _ x dx (refsOf WS) na11 hs u (.int 0 z) ?kB ?kF ?kX ?kN ?kT ?kk ?kd ?ku (.tail _ (.head _)) (.tail _ (.tail _ (.head _))) ?kr
          (case kB => k_asm); (case kF => k_asm); (case kX => assumption); (case kN => k_asm); (case kT => k_asm); (case kk => exact rfl); (case kd => ktr_room); (case ku => first | ktr_units | (have hcL9 := cLine_is; (try simp only [units_under_make, units_in1, units_deeper, Around.mark_units, units_caller]); (try dsimp only [ktrTop]); omega))
          case kr =>
          intro r15 h15 tk15 F15 N15
          have e15 : (((refsOf WS).size : Nat) : Int) = (ws.length : Int) + 1 := by rw [refs_size]; omega
          rw [e15]
          k_steps
          all_goals (try unfold Stop)
          · (with_reducible rename Fr g' L' _ _ => F20)
            (with_reducible rename News g' L' _ _ => N20)
            refine hR9 _ _ ⟨by first | rfl | trivial, _, _, _, _, q12, t1, rfl, F20, fun p hp => N20 p ?_, rfl, rfl, rfl, ?_, G12, T12⟩
            · revert p; exact (allC (mAt 3) (allC (mAt 4) (allC (.head _) (allC (mAt 5) (fun p hp => (.tail _ (.tail _ (.tail _ (.tail _ (.tail _ (.tail _ (.tail _ (eR p hp)))))))))))))
            · show some (Value.int ((S : Nat) : Int) t1) = _
              rw [← eQ, seenF, ew, if_pos ⟨by rw [← hWr]; exact hgt, fun e => by
                have := congrArg List.length e
                simp only [List.length_map, List.length_nil] at this
                omega⟩]
          · refine' ilshift_ok _ _ _ _ _ _ _ _ _ _ _ _ _ _ _ _ _ _ _ _ _ _ ?kB ?kF ?kX ?kN ?kT ?kk ?kd ?ku ⟨by omega, by omega⟩ ⟨by omega, by omega⟩ ?kr
            (case kB => k_asm); (case kF => k_asm); (case kX => assumption); (case kN => k_asm); (case kT => k_asm); (case kk => exact rfl); (case kd => ktr_room); (case ku => first | ktr_units | (have hcL9 := cLine_is; (try simp only [units_under_make, units_in1, units_deeper, Around.mark_units, units_caller]); (try dsimp only [ktrTop]); omega))
            case kr =>
            intro r16 h16 tk16 F16 N16
            k_steps
            all_goals (try unfold Stop)
            refine' ior_ok _ _ _ _ _ _ _ _ _ _ _ _ _ _ _ _ _ _ _ _ _ _ ?kB ?kF ?kX ?kN ?kT ?kk ?kd ?ku ⟨by omega, by omega⟩ (powB ⟨V9, by omega⟩) ?kr
            (case kB => k_asm); (case kF => k_asm); (case kX => assumption); (case kN => k_asm); (case kT => k_asm); (case kk => exact rfl); (case kd => ktr_room); (case ku => first | ktr_units | (have hcL9 := cLine_is; (try simp only [units_under_make, units_in1, units_deeper, Around.mark_units, units_caller]); (try dsimp only [ktrTop]); omega))
            case kr =>
            intro r17 h17 tk17 F17 N17
            rw [bitOr_eq ⟨S, eS⟩ ⟨V9, by omega⟩]
            k_steps
            all_goals (try unfold Stop)
            (with_reducible rename Fr g' L' _ _ => F18)
            (with_reducible rename News g' L' _ _ => N18)
            refine hS9 _ (stepW (news := (x, accObj dx (refsOf WS) na11) :: (dx, iniOf hs u (.int 0 z)) :: (148, tabObj q12) :: (I, o5) :: (vl, listOf vs.toArray nv) :: (lw, listOf wv.toArray nw) :: (tp, tupObj #[.str (PySem.Str.ofString " ") tb, .str w9 tw9]) :: extra) F18 (fun p hp => N18 p ?_) ⟨h, Nat.lt_succ_self _, (exI7 WS na11 (S ||| 2 ^ V9) q12 ((tp, tupObj #[.str (PySem.Str.ofString " ") tb, .str w9 tw9]) :: extra) _ _ ⟨rfl, rfl, rfl, rfl, rfl, rfl, rfl, hWt, fun p hp => .tail _ (eR p hp), fun p hp => ?_, fun p hp => ?_, G12, T12, Nat.or_lt_two_pow (n := 6) eS (Nat.pow_lt_pow_right (by decide) (by omega)), by omega, hWb, ?_⟩)⟩)
            · revert p; exact (allC (.tail _ (.head _)) (allC (.tail _ (.tail _ (.head _))) (allC (.head _) (fun p hp => (.tail _ (.tail _ (.tail _ (List.mem_cons.mpr (by simpa only [List.mem_cons] using hp)))))))))
            · revert p; exact (allC (Nat.ne_of_gt (l11 (148, tabObj q2) (.tail _ (.tail _ (.head _))))) (fun p hp => eN p hp))
            · revert p; exact (allC (Nat.ne_of_gt (l11 (x, accObj dx (refsOf ws) na) (.head _))) (fun p hp => eX p hp))
            · rw [hWm, ← eQ, seenF, ew, hV, if_neg]
              rintro ⟨c1, c2⟩
              exact c2 (by rw [List.length_eq_zero_iff.mp (by omega : ws.length = 0)]; rfl)
        · k_steps
          all_goals (try unfold Stop)
          refine' ilshift_ok _ _ _ _ _ _ _ _ _ _ _ _ _ _ _ _ _ _ _ _ _ _ ?kB ?kF ?kX ?kN ?kT ?kk ?kd ?ku ⟨by omega, by omega⟩ ⟨by omega, by omega⟩ ?kr
          (case kB => k_asm); (case kF => k_asm); (case kX => assumption); (case kN => k_asm); (case kT => k_asm); (case kk => exact rfl); (case kd => ktr_room); (case ku => first | ktr_units | (have hcL9 := cLine_is; (try simp only [units_under_make, units_in1, units_deeper, Around.mark_units, units_caller]); (try dsimp only [ktrTop]); omega))
          case kr =>
          intro r16 h16 tk16 F16 N16
          k_steps
          all_goals (try unfold Stop)
          refine' ior_ok _ _ _ _ _ _ _ _ _ _ _ _ _ _ _ _ _ _ _ _ _ _ ?kB ?kF ?kX ?kN ?kT ?kk ?kd ?ku ⟨by omega, by omega⟩ (powB ⟨V9, by omega⟩) ?kr
          (case kB => k_asm); (case kF => k_asm); (case kX => assumption); (case kN => k_asm); (case kT => k_asm); (case kk => exact rfl); (case kd => ktr_room); (case ku => first | ktr_units | (have hcL9 := cLine_is; (try simp only [units_under_make, units_in1, units_deeper, Around.mark_units, units_caller]); (try dsimp only [ktrTop]); omega))
          case kr =>
          intro r17 h17 tk17 F17 N17
          rw [bitOr_eq ⟨S, eS⟩ ⟨V9, by omega⟩]
          k_steps
          all_goals (try unfold Stop)
          (with_reducible rename Fr g' L' _ _ => F18)
          (with_reducible rename News g' L' _ _ => N18)
          refine hS9 _ (stepW (news := (x, accObj dx (refsOf WS) na11) :: (dx, iniOf hs u (.int 0 z)) :: (148, tabObj q12) :: (I, o5) :: (vl, listOf vs.toArray nv) :: (lw, listOf wv.toArray nw) :: (tp, tupObj #[.str (PySem.Str.ofString " ") tb, .str w9 tw9]) :: extra) F18 (fun p hp => N18 p ?_) ⟨h, Nat.lt_succ_self _, (exI7 WS na11 (S ||| 2 ^ V9) q12 ((tp, tupObj #[.str (PySem.Str.ofString " ") tb, .str w9 tw9]) :: extra) _ _ ⟨rfl, rfl, rfl, rfl, rfl, rfl, rfl, hWt, fun p hp => .tail _ (eR p hp), fun p hp => ?_, fun p hp => ?_, G12, T12, Nat.or_lt_two_pow (n := 6) eS (Nat.pow_lt_pow_right (by decide) (by omega)), by omega, hWb, ?_⟩)⟩)
          · revert p; exact (allC (.tail _ (.head _)) (allC (.tail _ (.tail _ (.head _))) (allC (.head _) (fun p hp => (.tail _ (.tail _ (.tail _ (List.mem_cons.mpr (by simpa only [List.mem_cons] using hp)))))))))
          · revert p; exact (allC (Nat.ne_of_gt (l11 (148, tabObj q2) (.tail _ (.tail _ (.head _))))) (fun p hp => eN p hp))
          · revert p; exact (allC (Nat.ne_of_gt (l11 (x, accObj dx (refsOf ws) na) (.head _))) (fun p hp => eX p hp))
          · rw [hWm, ← eQ, seenF, ew, hV, if_neg]
            rintro ⟨c1, c2⟩
            omega
    case after =>
      rintro r s9 ⟨hR8⟩
      refine absG fun G99 k99 => ?_
      refine andE2 hR8 fun e9z0 h9z0 => ?_
      refine exE6 h9z0 fun h' m' g2 tk2 q2 ts h9z1 => ?_
      refine andE9 h9z1 fun e9z1 F8 N8 e1 e2 e3 e4 eG eT => ?_
      clear h9z1 h9z0 hR8
      subst e9z0
      subst e9z1
      refine k99.go ?_
      clear k99 G99
      rw [known4 e1 e2 e3 e4] at F8
      (try clear F7 N7); (try clear F6 N6); (try clear F5 N5); (try clear F4 N4)
      have hvl := valN_len words wd j
      have hS := seenF_lt words wd (valN words wd j) j j [] 0 (fun i hi => Nat.lt_of_le_of_lt (valN_le words wd j (by omega) i hi) hi) (Nat.two_pow_pos j)
      have hS64 : seenF words wd (valN words wd j) j [] 0 < 64 := Nat.lt_of_lt_of_le hS (Nat.pow_le_pow_right (by decide) (by omega : j ≤ 6))
      have hvsl : vs.length = j := by rw [jv.length, List.length_map, hvl]
      generalize hSe : seenF words wd (valN words wd j) j [] 0 = S at F8 hS64
      k_steps
      all_goals (try unfold Stop)
      (with_reducible rename Fr g' L' _ _ => F9)
      (with_reducible rename News g' L' _ _ => N9)
      refine while_K1 (fun k m' => ∃ (v : Nat) (tv : Tok), m' "words" = some (.ref lw) ∧ m' "width" = some (.int wd tw) ∧ m' "values" = some (.ref vl) ∧ m' "seen" = some (.int (S : Int) ts) ∧ m' "value" = some (.int ((v : Nat) : Int) tv) ∧ mexF S k v = mexF S 8 0 ∧ k + v = 8) 8 F9 N9 (exI2 0 _ ⟨rfl, rfl, rfl, rfl, rfl, rfl, rfl⟩) ?_
      intro k m3 h10 tk10 hJ F10 N10 S8 hS8 E8
      refine absG fun G99 k99 => ?_
      refine exE2 hJ fun v tv h9z0 => ?_
      refine andE7 h9z0 fun e1 e2 e3 e4 e5 e6 e7 => ?_
      clear h9z0 hJ
      refine k99.go ?_
      clear k99 G99
      rw [known5 e1 e2 e3 e4 e5] at F10
      (try clear F9 N9); (try clear F8 N8)
      k_steps
      all_goals (try unfold Stop)
      refine' ilshift_ok _ _ _ _ _ _ _ _ _ _ _ _ _ _ _ _ _ _ _ _ _ _ ?kB ?kF ?kX ?kN ?kT ?kk ?kd ?ku ⟨by omega, by omega⟩ ⟨by omega, by omega⟩ ?kr
      (case kB => k_asm); (case kF => k_asm); (case kX => assumption); (case kN => k_asm); (case kT => k_asm); (case kk => exact rfl); (case kd => ktr_room); (case ku => first | ktr_units | (have hcL9 := cLine_is; (try simp only [units_under_make, units_in1, units_deeper, Around.mark_units, units_caller]); (try dsimp only [ktrTop]); omega))
      case kr =>
      intro r16 h16 tk16 F16 N16
      k_steps
      all_goals (try unfold Stop)
      refine' iand_ok _ _ _ _ _ _ _ _ _ _ _ _ _ _ _ _ _ _ _ _ _ _ ?kB ?kF ?kX ?kN ?kT ?kk ?kd ?ku ⟨by omega, by omega⟩ (powB ⟨v, by omega⟩) ?kr
      (case kB => k_asm); (case kF => k_asm); (case kX => assumption); (case kN => k_asm); (case kT => k_asm); (case kk => exact rfl); (case kd => ktr_room); (case ku => first | ktr_units | (have hcL9 := cLine_is; (try simp only [units_under_make, units_in1, units_deeper, Around.mark_units, units_caller]); (try dsimp only [ktrTop]); omega))
      case kr =>
      intro r17 h17 tk17 F17 N17
      rw [bitAnd_eq ⟨S, hS64⟩ ⟨v, by omega⟩]
      have bh := bitHigh ⟨S, hS64⟩ ⟨v, by omega⟩
      dsimp only at bh ⊢
      generalize hB : S &&& 2 ^ v = bit at bh ⊢
      k_steps
      all_goals (try unfold Stop)
      · have hb0 : bit ≠ 0 := fun e => by
          refine absG fun G99 k99 => ?_
          subst e
          refine k99.go ?_
          clear k99 G99
          exact absurd rfl ‹((0 : Nat) : Int) ≠ 0›
        have hv6 : v < 6 := Nat.lt_of_not_le fun q => hb0 (bh q)
        refine absG fun G99 k99 => ?_
        obtain ⟨k', rfl⟩ : ∃ k', k = k' + 1 := ⟨k - 1, by omega⟩
        refine k99.go ?_
        clear k99 G99
        rw [mexF, if_pos (by rw [hB]; exact hb0)] at e6
        refine' iadd_ok _ _ _ _ _ _ _ _ _ _ _ _ _ _ _ _ _ _ _ _ _ _ ?kB ?kF ?kX ?kN ?kT ?kk ?kd ?ku ⟨by omega, by omega⟩ ⟨by omega, by omega⟩ ?kr
        (case kB => k_asm); (case kF => k_asm); (case kX => assumption); (case kN => k_asm); (case kT => k_asm); (case kk => exact rfl); (case kd => ktr_room); (case ku => first | ktr_units | (have hcL9 := cLine_is; (try simp only [units_under_make, units_in1, units_deeper, Around.mark_units, units_caller]); (try dsimp only [ktrTop]); omega))
        case kr =>
        intro r18 h18 tk18 F18 N18
        k_steps
        all_goals (try unfold Stop)
        (with_reducible rename Fr g' L' _ _ => F19)
        (with_reducible rename News g' L' _ _ => N19)
        exact hS8 _ ⟨_, _, _, rfl, F19, N19, k', Nat.lt_succ_self _, v + 1, _, rfl, rfl, rfl, rfl, rfl, e6, by omega⟩
      · have hb0 : bit = 0 := by omega
        rw [hb0] at hB
        rw [mexF_end hB] at e6
        (with_reducible rename Fr g' L' _ _ => F19)
        (with_reducible rename News g' L' _ _ => N19)
        rw [show vs.toArray.push (Value.int ((v : Nat) : Int) tv) = (vs ++ [Value.int ((v : Nat) : Int) tv]).toArray by simp] at N19
        refine hS9 _ (stepK (news := (vl, listOf (vs ++ [Value.int ((v : Nat) : Int) tv]).toArray (nv + 1)) :: (148, tabObj q2) :: (lw, listOf wv.toArray nw) :: rest) F19 N19 (fun p hp => ?_) ⟨rfl, rfl, rfl, exI3 q2 _ (nv + 1) ⟨rfl, ?_, eG, eT⟩⟩)
        · revert p; exact (allC (z1) (allC (z2) (allC (z3) (fun p hp => (hn5 p (mTl 3 hp))))))
        · rw [valN, hSe, List.map_append, ← e6]
          exact IntsAre.append jv (.cons _ tv .nil)
  · intro m1 nw1 h5 g5 tk5 hJ F5 N5
    refine absG fun G99 k99 => ?_
    refine andE4 hJ fun j1 j2 j3 h9z0 => ?_
    refine exE3 h9z0 fun q1 vs nv h9z1 => ?_
    refine andE4 h9z1 fun e9z0 jv jG jT => ?_
    clear h9z1 h9z0 hJ
    subst e9z0
    refine k99.go ?_
    clear k99 G99
    rw [known3w j1 j2 j3] at F5
    k_steps
    all_goals (try unfold Stop)
    (with_reducible rename Fr h₀ L _ m => F8)
    (with_reducible rename News h₀ L _ _ => N8)
    refine hret vl vs.toArray nv q1 _ _ _ F8 N8 jv jG jT fun p hp => ?_
    revert p; exact (allC (c1) (allC (c2) (fun p hp => nvl p hp)))
end Mine
end

section
open PySem PySem.W PyProof.Rows PySem.Calls
set_option Elab.async false
set_option linter.unusedVariables false
set_option linter.unusedSimpArgs false
set_option maxRecDepth 100000
set_option maxHeartbeats 2000000
set_option pp.maxSteps 1200
set_option pp.deepTerms false
namespace Mine
abbrev nilTup : Obj := { cls := .type "tuple", data := .seq #[] }
def NilDict (od : Obj) (n : Nat) : Prop := od.cls = .type "dict" ∧ od.data = .dict #[] n
theorem lk_dict_iter : typeLookup (.type "dict") "__iter__" = pure (some (.builtin "dict.__iter__")) := by rw [typeLookup_type, builtinLookup_eq_fast]; kernel_rfl
theorem sub_dict' : isSubtype (.type "dict") (.type "dict") = pure true := by rw [isSubtype_type]; kernel_rfl
theorem merge_nil {M : Model} {A : Around} {E : Value → Shared → Prop} {s : Shared} {d0 D : Addr} {n : Nat} {od : Obj} {Q : Unit → Shared → Prop} (h0 : s.heap.get? d0 = some emptyDict) (hD : s.heap.get? D = some od) (hO : NilDict od n) (hs : (D == sysModules) = false) (q : Q () s) :
    wpAny M A (mergeMapping d0 (.ref D) true) Q E s := by
  refine absG fun G99 k99 => ?_
  obtain ⟨h, g, d, t, os⟩ := s
  obtain ⟨hc, hdt⟩ := hO
  refine k99.go ?_
  clear k99 G99
  have L1 : Looks M h (typeOf (.ref D)) (.type "dict") := hc ▸ (show Looks M h (typeOf (.ref D)) od.cls from (Looks.ld hD).andThen .now)
  have L2 : Looks M h (specialOf (.ref D) "__iter__") (some (.builtin "dict.__iter__")) := L1.andThen (Looks.of_pure lk_dict_iter)
  have L3 : Looks M h (isInstance (.ref D) (.type "dict")) true := L1.andThen (Looks.of_pure sub_dict')
  unfold mergeMapping
  refine wpAny_bind (L3.at ?_)
  rw [if_pos rfl]
  refine wpAny_bind (L2.at (wpAny_bind (wpAny_pure ?_)))
  show wpAny M A (if (D == sysModules) = true then _ else _) Q E _
  rw [if_neg (by rw [hs]; decide)]
  have LE : Looks M h (dictEntries D) #[] := (Looks.ld hD).andThen (by rw [hdt]; exact .now)
  have LE0 : Looks M h (dictEntries d0) #[] := (Looks.ld h0).andThen .now
  have LP : Looks M h (dictEpoch D) n := (Looks.ld hD).andThen (by rw [hdt]; exact .now)
  refine wpAny_bind (LE0.at ?_)
  show wpAny M A (if (#[] : Array DictEntry).isEmpty = true then _ else _) Q E _
  rw [if_pos (show (#[] : Array DictEntry).isEmpty = true from rfl)]
  refine wpAny_bind (LE.at (wpAny_bind (wpAny_of_eq (a := PUnit.unit) (by rfl) ?_)))
  refine wpAny_bind (LE.at (wpAny_bind (LP.at ?_)))
  exact wpAny_bind (wpAny_of_eq (a := PUnit.unit) (by rfl) (wpAny_pure q))
section
variable {w : World} {A : Around} {E : Value → Shared → Prop} {h : Heap} {g : Array GenState} {d : Drawn} {t : Nat} {os : OsState}
theorem merged_nil {f : Value} {x : Sem Value} {D : Addr} {n : Nat} {od : Obj} {Q : Addr → Shared → Prop} (hD : h.get? D = some od) (hO : NilDict od n) (hs : (D == sysModules) = false)
    (hx : ∀ (A' : Around) (Q' : Value → Shared → Prop) (E' : Value → Shared → Prop) (h' : Heap), (∀ b o, h.get? b = some o → h'.get? b = some o) → Q' (.ref D) ⟨h', g, d, t, os⟩ → wpAny (model PySem.Challenge.rw_wu0081_01.row.prog w) A' x Q' E' ⟨h', g, d, t, os⟩)
    (hq : Q h.objs.size ⟨h.push { cls := .type "dict", data := .dict #[] }, g, d, t, os⟩) :
    wpAny (model PySem.Challenge.rw_wu0081_01.row.prog w) A (mergedKeywords f [(none, x)]) Q E ⟨h, g, d, t, os⟩ := by
  have hD1 : (h.push { cls := .type "dict", data := .dict #[] }).get? D = some od := Heap.get?_push_of_some _ hD
  have hN : (h.push { cls := .type "dict", data := .dict #[] }).get? h.objs.size = some { cls := .type "dict", data := .dict #[] } := Heap.get?_push_size _ rfl
  unfold mergedKeywords
  refine wpAny_bind (wpAny_alloc ?_)
  refine wpAny_bind (wpAny_holding ?_)
  refine wpAny_bind ?_
  rw [List.forIn_cons]
  refine wpAny_bind (wpAny_bind ?_)
  dsimp only [List.isEmpty_nil]
  rw [if_pos rfl]
  refine wpAny_pure ?_
  refine wpAny_bind (hx _ _ _ _ (fun b o e => Heap.get?_push_of_some _ e) ?_)
  refine wpAny_bind (wpAny_onRaise ?_)
  refine wpAny_holding (wpAny_tryCatch (wpAny_onRaise (merge_nil hN hD1 hO hs ?_)))
  refine wpAny_pure ?_
  dsimp only
  rw [List.forIn_nil]
  refine wpAny_pure ?_
  dsimp only [List.isEmpty_nil]
  first | rw [if_pos rfl] | rw [if_pos (show ([] : List (Str × Sem Value)).isEmpty = true from rfl)]
  refine wpAny_pure ?_
  exact wpAny_pure hq
theorem star_nil {T : Addr} {Q : List Value → Shared → Prop} (hT : h.get? T = some nilTup) (hq : ∀ h2, (∀ b o, h.get? b = some o → h2.get? b = some o) → Q [] ⟨h2, g, d, t, os⟩) : StarOf (model PySem.Challenge.rw_wu0081_01.row.prog w) A E (.ref T) Q ⟨h, g, d, t, os⟩ := by
  have hT' : (⟨h, g, d, t, os⟩ : Shared).TypeIs (.ref T) "tuple" := ⟨nilTup, hT, rfl⟩
  have z : wpAny (model PySem.Challenge.rw_wu0081_01.row.prog w) A (collect (.ref T)) Q E ⟨h, g, d, t, os⟩ :=
    wpAny_collect_seq T (T := "tuple") (.inr rfl) hT rfl rfl (fun h' hk => hq h' hk) (by rw [PySem.sizeLine_eq]; decide)
  unfold StarOf notIterableAtAll
  exact wpAny_bind (wpAny_specialOf hT' PySem.F.slot_tuple_iter.lookup (wpAny_pure ⟨rfl, z⟩))
theorem evalArgs_SK {f : Value} {x y : Sem Value} {T D : Addr} {n : Nat} {od : Obj} {Q : Args → Shared → Prop} (hT : h.get? T = some nilTup) (hD : h.get? D = some od) (hO : NilDict od n) (hs : (D == sysModules) = false)
    (hx : ∀ (A' : Around) (Q' : Value → Shared → Prop) (E' : Value → Shared → Prop), Q' (.ref T) ⟨h, g, d, t, os⟩ → wpAny (model PySem.Challenge.rw_wu0081_01.row.prog w) A' x Q' E' ⟨h, g, d, t, os⟩)
    (hy : ∀ (A' : Around) (Q' : Value → Shared → Prop) (E' : Value → Shared → Prop) (h' : Heap), (∀ b o, h.get? b = some o → h'.get? b = some o) → Q' (.ref D) ⟨h', g, d, t, os⟩ → wpAny (model PySem.Challenge.rw_wu0081_01.row.prog w) A' y Q' E' ⟨h', g, d, t, os⟩)
    (hq : ∀ h', (∀ b o, h.get? b = some o → h'.get? b = some o) → Q ⟨[], []⟩ ⟨h', g, d, t, os⟩) :
    wpAny (model PySem.Challenge.rw_wu0081_01.row.prog w) A (evalArgs f true [(true, x)] [(none, y)]) Q E ⟨h, g, d, t, os⟩ := by
  have ek : ([(none, y)] : List (Option Str × Sem Value)).all (·.1.isSome) = false := rfl
  have k1 : ∀ b o, h.get? b = some o → (h.push { cls := .type "dict", data := .dict #[] }).get? b = some o := fun b o e => Heap.get?_push_of_some _ e
  have hN : (h.push { cls := .type "dict", data := .dict #[] }).get? h.objs.size = some { cls := .type "dict", data := .dict #[] } := Heap.get?_push_size _ rfl
  have S := star_nil (w := w) (A := A) (E := E) (g := g) (d := d) (t := t) (os := os) (Q := fun vs s' => ∃ h2, (∀ b o, (h.push { cls := .type "dict", data := .dict #[] }).get? b = some o → h2.get? b = some o) ∧ vs = [] ∧ s' = ⟨h2, g, d, t, os⟩) (k1 _ _ hT) fun h2 k2 => ⟨h2, k2, rfl, rfl⟩
  unfold StarOf at S
  unfold evalArgs
  refine wpAny_bind (hx _ _ _ ?_)
  refine wpAny_bind (wpAny_pure ?_)
  refine wpAny_holding ?_
  dsimp only
  rw [if_neg (by rw [ek]; decide)]
  refine wpAny_bind (merged_nil hD hO hs hy ?_)
  refine wpAny_bind (wpAny_bind (wpAny_mono S (fun b s₂ h₂ => ?_) fun _ _ e => e))
  refine absG fun G99 k99 => ?_
  obtain ⟨rfl, z⟩ := h₂
  refine k99.go ?_
  clear k99 G99
  simp only [Bool.false_eq_true, if_false]
  refine wpAny_holding (wpAny_mono z (fun vs s₃ h₃ => ?_) fun _ _ e => e)
  refine absG fun G99 k99 => ?_
  obtain ⟨h2, k2, rfl, rfl⟩ := h₃
  refine k99.go ?_
  clear k99 G99
  have LE : Looks (model PySem.Challenge.rw_wu0081_01.row.prog w) h2 (dictEntries h.objs.size) #[] := (Looks.ld (k2 _ _ hN)).andThen .now
  refine wpAny_bind (wpAny_holding ?_)
  unfold keywordsIn
  refine wpAny_bind (LE.at (wpAny_bind (wpAny_of_eq (a := []) (by rfl) (wpAny_pure (wpAny_pure (hq h2 fun b o e => k2 b o (k1 b o e)))))))
end
theorem ks_call2 {M : Model} {A : Around} {E : Value → Shared → Prop} {s : Shared} {f : Value} {first : List Value} {pos : Pos} {Q : Value → Shared → Prop} {P : Heap → Prop} {args : List (Bool × Sem Value)} {keywords : List (Option Str × Sem Value)} (hst : (args.any (·.1) || keywords.any (·.1.isNone)) = true)
    (hk : ∀ h, P h → ∃ k, (k = Keeper.frame ∨ k = Keeper.machine ∨ k = Keeper.boundFrame) ∧ Looks M h (keeperOf f) k)
    (h : wpAny M A (evalArgs f true args keywords) (fun a s₁ => P s₁.heap ∧ wpAny M A (call f (first ++ a.pos) a.kw) Q E s₁) E s) : wpAny M A (callWith pos f first args keywords) Q E s := by
  unfold callWith
  refine wpAny_bind (wpAny_holding (wpAny_mono h (fun a s₁ h₁ => wpAny_bind (wpAny_standAt ?_)) fun _ _ x => x))
  refine absG fun G99 k99 => ?_
  obtain ⟨k, hk', L⟩ := hk _ h₁.1
  refine k99.go ?_
  clear k99 G99
  simp only [hst]
  refine wpAny_bind (L.here ?_)
  have tail : ∀ {t : Sem Value}, wpAny M A t Q E s₁ → wpAny M A (t >>= fun r => holding [r] point >>= fun _ => pure r) Q E s₁ :=
    fun ht => wpAny_bind (wpAny_mono ht (fun r s₂ hr => wpAny_bind (wpAny_holding (wpAny_point (wpAny_pure hr)))) fun _ _ x => x)
  have marked (mk : Value) : wpAny M A (callMarked mk f (first ++ a.pos) a.kw) Q E s₁ := by unfold callMarked; exact Calls.wpAny_keep h₁.2
  rcases hk' with rfl | rfl | rfl <;> dsimp only <;> first | exact tail (marked _) | exact tail (wpAny_operating h₁.2)
theorem nilDict_of {prog : Program} {w : World} {K : Type} [DecidableEq K] {knd : KeyKind prog w K} {o : Obj} (h : o.IsDictOf knd []) : ∃ n, NilDict o n := by
  obtain ⟨es, ep, hx, hd, hk, hp, _⟩ := h
  have e : es = #[] := by
    cases he : es.toList with
    | nil => exact Array.toList_eq_nil_iff.mp he
    | cons a r => rw [he] at hp; cases hp
  subst e
  exact ⟨ep, hx.1, hd⟩
end Mine
end

section
open PySem PySem.W PyProof.Rows PySem.Calls
set_option Elab.async false
set_option linter.unusedVariables false
set_option linter.unusedSimpArgs false
set_option maxRecDepth 100000
set_option maxHeartbeats 2000000
set_option pp.maxSteps 1200
set_option pp.deepTerms false
namespace Mine
section
variable {A₀ A : Around} {s : Shared} {base h₀ g₀ : Heap} {outer : List Env} {L : Addr} {m : Str → Option Value} {news : List (Addr × Obj)} {K : Frag} {p : Program} {loose : List Str} {mean : ExcName → Option Value} {mg mb : Str → Option Value} {env : Env} {R : Result → Shared → Prop}
theorem memX {b : Addr} (hf : env.frame = some L) (hm : b ∈ (env :: outer).filterMap (·.frame)) : b = L ∨ b ∈ outer.filterMap (·.frame) := by
  rw [List.filterMap_cons, hf] at hm
  exact List.mem_cons.mp hm
theorem dictsX (FG : ∃ o es n, h₀.get? L = some o ∧ o.data = .dict es n) (hf : env.frame = some L) (D : KtsDicts (outer.filterMap (·.frame)) h₀) : KtsDicts ((env :: outer).filterMap (·.frame)) h₀ := fun b hb => by
  rcases memX hf hb with rfl | hb
  · exact FG
  · exact D b hb
theorem groundS0 (B : Below A₀ base [] h₀) (F : Fr h₀ L s.heap m) (N : News h₀ L s.heap news) (hA : A.frames = some [env]) (hf : env.frame = some L) (hke : env.scope.kind = .function) :
    Fr h₀ L (hideAll s.heap (news.map (·.1))) m ∧ Below A base [env] (hideAll s.heap (news.map (·.1))) ∧ h₀.StaysIn (hideAll s.heap (news.map (·.1))) ∧ KtsDicts ([env].filterMap (·.frame)) (hideAll s.heap (news.map (·.1))) ∧
      ∀ v s', LeaveS0 ([env].filterMap (·.frame)) h₀ L m (hideAll s.heap (news.map (·.1))) R v s' → R (.ok (.ret v)) s' := by
  obtain ⟨FG, BG, st, _⟩ := groundX (R := R) B F N hA hf hke
  generalize hideAll s.heap (news.map (·.1)) = G at FG BG st
  obtain ⟨oL, es, ep, hL, hLd, hLk, hLf⟩ := id FG.ns
  have off : ∀ b o, h₀.get? b = some o → b ∉ [env].filterMap (·.frame) := fun b o e q => by
    rcases memX hf q with rfl | z
    · rw [kts_self F] at e; cases e
    · cases z
  refine ⟨FG, BG, st, dictsX ⟨oL, es, ep, hL, hLd⟩ hf ktsDicts_nil, fun v s' hl => ?_⟩
  obtain ⟨g', L', m', news', T', F', N', k⟩ := hl
  obtain ⟨sl, hs⟩ := T'.up hL
  refine k ⟨⟨_, es, ep, F'.keep _ _ hs, hLd, hLk, hLf⟩, fun b o e => F'.keep b o (T'.other b o (st b o e) (off b o e)), F.above⟩ fun q hq => ⟨(N' q hq).1, fun e => ?_, ?_⟩
  · have z := (N' q hq).2.2
    rw [e, hs] at z; cases z
  · cases e : h₀.get? q.1 with
    | none => rfl
    | some o =>
      obtain ⟨sl', hs'⟩ := T'.up (st _ _ e)
      have z := (N' q hq).2.2
      rw [hs'] at z; cases z
theorem groundS (B : Below A₀ base outer h₀) (F : Fr h₀ L s.heap m) (N : News h₀ L s.heap news) (XB : K.In base) (TB : Top p loose mean mg mb base) (D : KtsDicts (outer.filterMap (·.frame)) h₀) (T0 : KtsTurn (outer.filterMap (·.frame)) g₀ h₀)
    (hA : A.frames = some (env :: outer)) (hf : env.frame = some L) (hke : env.scope.kind = .function) :
    Fr h₀ L (hideAll s.heap (news.map (·.1))) m ∧ Below A base (env :: outer) (hideAll s.heap (news.map (·.1))) ∧ h₀.StaysIn (hideAll s.heap (news.map (·.1))) ∧ KtsDicts ((env :: outer).filterMap (·.frame)) (hideAll s.heap (news.map (·.1))) ∧
      ∀ v s', LeaveS ((env :: outer).filterMap (·.frame)) A₀ base outer K p loose mean mg mb g₀ h₀ L m (hideAll s.heap (news.map (·.1))) R v s' → R (.ok (.ret v)) s' := by
  obtain ⟨FG, BG, st, lv⟩ := groundX (R := R) B F N hA hf hke
  generalize hideAll s.heap (news.map (·.1)) = G at FG BG st lv
  obtain ⟨oL, es, ep, hL, hLd, hLk, hLf⟩ := id FG.ns
  have off : ∀ b o, h₀.get? b = some o → b ∉ outer.filterMap (·.frame) → b ∉ (env :: outer).filterMap (·.frame) := fun b o e n q => by
    rcases memX hf q with rfl | z
    · rw [kts_self F] at e; cases e
    · exact n z
  refine ⟨FG, BG, st, dictsX ⟨oL, es, ep, hL, hLd⟩ hf fun b hb => ?_, fun v s' hl => ?_⟩
  · obtain ⟨o, es, n, ho, hd⟩ := D b hb
    exact ⟨o, es, n, st b o ho, hd⟩
  rcases hl with hl | ⟨g', L', m', news', T', F', N', k⟩
  · exact lv v s' hl
  obtain ⟨sl, hs⟩ := T'.up hL
  obtain ⟨T₁, S₁⟩ := kts_turn_at (h := s'.heap) (fs := outer.filterMap (·.frame)) (g := h₀)
    (fun b hb => by obtain ⟨_, o, ho, _⟩ := B.frames.mem hb; exact ⟨o, ho⟩)
    (fun b o e n => F'.keep b o (T'.other b o (st b o e) (off b o e n)))
    (fun b o e hm => by obtain ⟨sl', hs'⟩ := T'.up (st b o e); exact ⟨sl', F'.keep _ _ hs'⟩)
  have B₃ : Below A₀ base outer (ktsHeap s'.heap (outer.filterMap (·.frame)) h₀) := ⟨B.stack, fun b o e => T₁.other b o (B.stays b o e) (fun hm => by
    rw [(B.frames.mem hm).1] at e; cases e), B.frames.of_keeps fun b o e _ => by
    obtain ⟨sl', hs'⟩ := T₁.up e
    exact ⟨_, hs', rfl⟩⟩
  refine k _ (T0.trans T₁) ⟨⟨_, es, ep, F'.keep _ _ hs, hLd, hLk, hLf⟩, S₁, by rw [T₁.size]; exact F.above⟩ (fun q hq => ⟨(N' q hq).1, fun e => ?_, ?_⟩) B₃ (XB.keeps B₃.stays) (TB.keeps B₃.stays) (D.turn T₁)
  · have z := (N' q hq).2.2
    rw [e, hs] at z; cases z
  · refine T₁.none_ _ ?_
    cases e : h₀.get? q.1 with
    | none => rfl
    | some o =>
      obtain ⟨sl', hs'⟩ := T'.up (st _ _ e)
      have z := (N' q hq).2.2
      rw [hs'] at z; cases z
end
section
variable {prog : Program} {w : World} {A₀ A : Around} {s : Shared} {base h₀ g₀ : Heap} {outer : List Env} {L : Addr} {m : Str → Option Value} {news : List (Addr × Obj)} {K : Frag} {p : Program} {loose : List Str} {mean : ExcName → Option Value} {mg mb : Str → Option Value} {env : Env}
    {R : Result → Shared → Prop} {name qual : Str} {params : Arguments} {body : List Stmt} {scope : Scope} {dV kV doc pm cdv ct oc : Value} {an od : Option Addr} {osl : Array (Option Value)} {f : Addr} {args : Args} {binds : List (Str × Value)}
theorem enterCS0 (B : Below A₀ base [] h₀) (F : Fr h₀ L s.heap m) (X₀ : K.In h₀) (N : News h₀ L s.heap news) (T : Top p loose mean mg mb h₀) (hA : A.frames = some [env]) (hf : env.frame = some L) (hke : env.scope.kind = .function)
    (ho : K.lookup f = some ⟨oc, od, .func (fnOf name qual params body scope dV kV doc pm an cdv ct), osl⟩) (hcd : codeIn K cdv qual = true) (hroom : A.depth < recursionLimit)
    (hbind : BindsTo s (fnOf name qual params body scope dV kV doc pm an cdv ct) args binds) (hkind : (binds.all fun y => scope.names.lookup y.1 == some .local || scope.names.lookup y.1 == some .cell) = true)
    (hnd : ((cellsFrom 0 scope.names []).map (·.1)).Nodup)
    (h : ∀ g L' h₁ tk cells, Fr h₀ L g m → Fr g L' h₁ (bindL (envOfC qual scope L' f cdv).kindOf binds fun _ => none) → News g L' h₁ (cells ++ news) →
      CellsAre (bindC (envOfC qual scope L' f cdv).kindOf binds fun _ => none) (cellsFrom (L' + 1) scope.names []) cells → Below A base [env] g → K.In g → Top p loose mean mg mb g → (∀ p ∈ news, p.1 < L') → KtsDicts ([env].filterMap (·.frame)) g →
      wpAny (model prog w) (A.deeper (envOfC qual scope L' f cdv)) (execs body (envOfC qual scope L' f cdv))
        (fun fl s' => LeaveS0 ([env].filterMap (·.frame)) h₀ L m g R (match fl with | .ret v => v | _ => .none) s')
        (fun e s' => wpAny (model prog w) (A.deeper (envOfC qual scope L' f cdv)) (leaving (envOfC qual scope L' f cdv) e) (fun _ s'' => R (.error e) s'') (fun e' s'' => R (.error e') s'') s')
        { s with heap := h₁, toks := tk })
    (hco : scope.isCoroutine = false) (hgen : scope.isGenerator = false) (hk : scope.kind = .function) : codeAny (model prog w) A (.call (.ref f) args) R s := by
  obtain ⟨FG, BG, st, D, lv⟩ := groundS0 (R := R) B F N hA hf hke
  have X := X₀.keeps F.keep
  refine codeAny_call_function hroom (X _ _ ho) rfl hco hgen rfl (codeRec_of X hcd) (hbind _ _ _ _ ?_)
  refine wpAny_newFunctionEnv_cells hk (kindsX hkind _) fun env' he s' x => ?_
  subst he
  refine ⟨(T.nolimit.keeps F.keep).keeps x.toInCall.keep, codeAny_func ?_⟩
  obtain ⟨h₁, tk, rfl, _⟩ := x.done
  have hk₁ := x.toInCall.keep
  obtain ⟨cells, NC, Y⟩ := Cl.news (h₀ := s.heap) (Nat.le_refl _) fun n c hm => ⟨x.cell n c (lookup_of_mem_nodup (cellsFrom_names scope.names 0 (s.heap.objs.size + 1) [] [] rfl ▸ hnd) hm), x.above n c hm⟩
  refine wpAny_mono (h _ s.heap.objs.size h₁ tk cells FG ⟨x.toInCall.ns, fun b o e => hk₁ b o (of_hideAll _ e), Nat.le_of_eq (hideAll_size _ _)⟩ (fun p hp => ?_) Y BG (X₀.keeps st) (T.keeps st) (fun p hp => Heap.lt_size (N p hp).1) D) (fun fl s' hl => lv _ _ hl) fun _ _ y => y
  rcases List.mem_append.mp hp with hp | hp
  · refine ⟨(NC p hp).1, (NC p hp).2.1, ?_⟩
    cases q : (hideAll s.heap (news.map (·.1))).get? p.1 with
    | none => rfl
    | some o => have := of_hideAll _ q; rw [(NC p hp).2.2] at this; cases this
  · exact ⟨hk₁ _ _ (N p hp).1, Nat.ne_of_lt (Heap.lt_size (N p hp).1), hideAll_none _ (List.mem_map_of_mem hp)⟩
theorem enterSX (B : Below A₀ base outer h₀) (F : Fr h₀ L s.heap m) (X₀ : K.In h₀) (N : News h₀ L s.heap news) (T : Top p loose mean mg mb h₀) (XB : K.In base) (TB : Top p loose mean mg mb base) (D : KtsDicts (outer.filterMap (·.frame)) h₀)
    (T0 : KtsTurn (outer.filterMap (·.frame)) g₀ h₀) (hA : A.frames = some (env :: outer)) (hf : env.frame = some L) (hke : env.scope.kind = .function)
    (ho : K.lookup f = some ⟨oc, od, .func (fnOf name qual params body scope dV kV doc pm an cdv ct), osl⟩) (hcd : codeIn K cdv qual = true) (hroom : A.depth < recursionLimit)
    (hbind : BindsTo s (fnOf name qual params body scope dV kV doc pm an cdv ct) args binds) (hloc : ∀ y ∈ binds, scope.names.lookup y.1 = some .local)
    (h : ∀ g L' h₁, Fr h₀ L g m → Fr g L' h₁ (fun y => binds.reverse.lookup y) → News g L' h₁ news → Below A base (env :: outer) g → K.In g → Top p loose mean mg mb g → KtsDicts ((env :: outer).filterMap (·.frame)) g →
      wpAny (model prog w) (A.deeper (envOf qual scope L' f cdv)) (execs body (envOf qual scope L' f cdv))
        (fun fl s' => LeaveS ((env :: outer).filterMap (·.frame)) A₀ base outer K p loose mean mg mb g₀ h₀ L m g R (match fl with | .ret v => v | _ => .none) s')
        (fun e s' => wpAny (model prog w) (A.deeper (envOf qual scope L' f cdv)) (leaving (envOf qual scope L' f cdv) e) (fun _ s'' => R (.error e) s'') (fun e' s'' => R (.error e') s'') s')
        { s with heap := h₁, toks := s.toks + binds.length })
    (hco : scope.isCoroutine = false) (hgen : scope.isGenerator = false) (hk : scope.kind = .function)
    (hcell : ∀ x ∈ scope.names, x.2 ≠ .cell) : codeAny (model prog w) A (.call (.ref f) args) R s := by
  obtain ⟨FG, BG, st, D', lv⟩ := groundS (R := R) B F N XB TB D T0 hA hf hke
  have X := X₀.keeps F.keep
  refine codeAny_call_def (fd := fnOf name qual params body scope dV kV doc pm an cdv ct) (body := body) (binds := binds) hroom (X _ _ ho) rfl (T.nolimit.keeps F.keep) (codeRec_of X hcd) rfl hbind hcell hloc (fun h₁ hns hk₁ => ?_) hco hgen hk
  exact wpAny_mono (h _ s.heap.objs.size h₁ FG ⟨hns, fun b o e => hk₁ b o (of_hideAll _ e), Nat.le_of_eq (hideAll_size _ _)⟩
    (fun p hp => ⟨hk₁ _ _ (N p hp).1, Nat.ne_of_lt (Heap.lt_size (N p hp).1), hideAll_none _ (List.mem_map_of_mem hp)⟩) BG (X₀.keeps st) (T.keeps st) D') (fun fl s' hl => lv _ _ hl) fun _ _ y => y
end
end Mine
end

section
open PySem PySem.W PyProof.Rows PySem.Calls
set_option Elab.async false
set_option linter.unusedVariables false
set_option linter.unusedSimpArgs false
set_option maxRecDepth 100000
set_option maxHeartbeats 2000000
set_option pp.maxSteps 1200
set_option pp.deepTerms false
namespace Mine
def LamTab (pos : Pos) (qual : Str) (ps : Array Value) (led : List (Addr × Obj)) : Prop :=
  ps = #[] ∨ ∃ c' oc vs t, codeAmong pos ps.toList = some (.ref c') ∧ TriplesOk ps.toList ∧ (c', oc) ∈ led ∧ oc.data = .fields vs ∧ vs[1]? = some (.str qual t)
theorem LamTab.mono {pos : Pos} {qual : Str} {ps : Array Value} {a b : List (Addr × Obj)} (h : LamTab pos qual ps a) (k : ∀ p ∈ a, p ∈ b) : LamTab pos qual ps b := by
  rcases h with h | ⟨c', oc, vs, t, h1, h2, h3, h4, h5⟩
  · exact .inl h
  · exact .inr ⟨c', oc, vs, t, h1, h2, k _ h3, h4, h5⟩
section
variable {M : Model} {A : Around} {E : Value → Shared → Prop} {s : Shared} {h₀ : Heap} {L a c P : Addr} {m mg mb : Str → Option Value} {cn : Str} {cs : Scope} {ccd : Value} {cl : List (Str × Addr)} {rest : List (Addr × Obj)}
  {p : Program} {loose : List Str} {mean : ExcName → Option Value} {name qual : Str} {params : Arguments} {body : Expr} {scope : Scope} {ps : Array Value} {pos : Pos} {clos : List (Str × Addr)} {cA : Addr} {cO : Obj}
theorem lam_any {Q : Value → Shared → Prop} (F : Fr h₀ L s.heap m) (N : News h₀ L s.heap ((cA, cO) :: (P, tabObj ps) :: rest)) (T : Top p loose mean mg mb h₀) (C : CodeHd h₀ c P) (hcd : ccd = .ref c) (ht : LamTab pos (cn ++ ".<locals>." ++ "<lambda>") ps rest) (hcP : cA ≠ P) (hr : ∀ q ∈ rest, q.1 ≠ P) (hdef : defaultsOf params (envX cn cs L a ccd cl) = ([], []))
    (hcl : closureFor scope (envX cn cs L a ccd cl) = pure clos)
    (h : ∀ f c' oc vs t ctv h' tk ps' rest', Fr h₀ L h' m →
      News h₀ L h' ((f, kla_obj "<lambda>" (cn ++ ".<locals>." ++ "<lambda>") params body scope clos ((mg "__name__").getD .none) c' ctv) :: (c', oc) :: (cA, cO) :: (P, tabObj ps') :: rest') →
      oc.data = .fields vs → vs[1]? = some (.str (cn ++ ".<locals>." ++ "<lambda>") t) → (∀ q ∈ rest, q ∈ rest') → (∀ q ∈ rest', q ∈ rest ∨ ((@LT.lt Nat _ P q.1) ∧ ∀ x ∈ rest, x.1 < q.1)) → LamTab pos (cn ++ ".<locals>." ++ "<lambda>") ps' rest' → ((ps' = ps ∧ rest' = rest) ∨ ∃ q, rest' = q :: rest ∧ LamTab pos (cn ++ ".<locals>." ++ "<lambda>") ps' [q] ∧ (@LT.lt Nat _ P q.1) ∧ ∀ x ∈ rest, x.1 < q.1) →
      (∀ q ∈ (c', oc) :: (cA, cO) :: (P, tabObj ps') :: rest', q.1 < f) → Q (.ref f) { s with heap := h', toks := tk }) :
    wpAny M A (eval (.Lambda params body scope pos) (envX cn cs L a ccd cl)) Q E s := by
  refine kla_eval hdef ?_
  rcases ht with rfl | ⟨c', oc, vs, t, h1, h2, h3, h4, h5⟩
  · refine kla_nest (g := fun o => (cA, cO) :: (P, o) :: rest) F N T C hcd (UpdF.tail hcP (UpdF.head hr)) trivial rfl hcl fun f c' oc vs t ctv h' tk F' N' d1 d2 l1 l2 => ?_
    refine h f c' oc vs t ctv h' tk _ ((c', oc) :: rest) F' (fun q hq => N' q ?_) d1 d2 (fun q hq => .tail _ hq) (fun q hq => ?_) (.inr ⟨c', oc, vs, t, codeAmong_snoc [] trivial rfl, TriplesOk_snoc _ _ _ _ trivial, .head _, d1, d2⟩) (.inr ⟨(c', oc), rfl, .inr ⟨c', oc, vs, t, codeAmong_snoc [] trivial rfl, TriplesOk_snoc _ _ _ _ trivial, .head _, d1, d2⟩, l1 (P, tabObj #[]) (.tail _ (.head _)), fun x hx => l1 x (.tail _ (.tail _ hx))⟩) (fun q hq => ?_)
    · revert q; exact (allC (.head _) (allC (.tail _ (.head _)) (allC (.tail _ (.tail _ (.head _))) (allC (.tail _ (.tail _ (.tail _ (.head _)))) (allC (.tail _ (.head _)) (fun q e => (.tail _ (.tail _ (.tail _ (.tail _ e))))))))))
    · revert q; exact (allC (.inr ⟨l1 (P, tabObj #[]) (.tail _ (.head _)), fun x hx => l1 x (.tail _ (.tail _ hx))⟩) (fun q hq => .inl hq))
    · have lt : ∀ b : Nat, b < c' → b < f := fun b hb => Nat.lt_trans hb l2
      revert q; exact (allC (l2) (allC (lt _ (l1 _ (.head _))) (allC (lt _ (l1 (P, tabObj #[]) (.tail _ (.head _)))) (allC (l2) (fun q hq => (lt _ (l1 _ (.tail _ (.tail _ hq)))))))))
  · refine kla_hit F N T C hcd (.tail _ (.head _)) h2 h1 hcl fun f ctv h' tk F' N' l1 => ?_
    refine h f c' oc vs t ctv h' tk ps rest F' (fun q hq => N' q ?_) h4 h5 (fun q hq => hq) (fun q hq => .inl hq) (.inr ⟨c', oc, vs, t, h1, h2, h3, h4, h5⟩) (.inl ⟨rfl, rfl⟩) (fun q hq => l1 q ?_)
    · revert q; exact (allC (.head _) (allC (.tail _ (.tail _ (.tail _ h3))) (allC (.tail _ (.head _)) (allC (.tail _ (.tail _ (.head _))) (fun q e => (.tail _ (.tail _ (.tail _ e))))))))
    · revert q; exact (allC (.tail _ (.tail _ h3)) (allC (.head _) (allC (.tail _ (.head _)) (fun q e => (.tail _ (.tail _ e))))))
end
end Mine
end

theorem Mine.rs12 {M : Model} {A : Around} {Q : Nat → Shared → Prop} {E : Value → Shared → Prop} {s : Shared} (h : wpAny M A (pure 1) Q E s) : wpAny M A (pure 1) Q E s := by first | (walk1; fail) | exact h
section
open PySem PySem.W PyProof.Rows PySem.Calls
set_option Elab.async false
set_option linter.unusedVariables false
set_option linter.unusedSimpArgs false
set_option maxRecDepth 100000
set_option maxHeartbeats 2000000
set_option pp.maxSteps 1200
set_option pp.deepTerms false
namespace Mine
set_option maxHeartbeats 8000000
local macro_rules | `(tactic| walk_at $s) => if s.getString == "exec" then `(tactic| walk_at "own s0") else Lean.Macro.throwUnsupported
def unqF (r : Str) : Nat → Nat → Str → Str
  | 0, _, d => d
  | f + 1, i, d => if i < r.length then (if (Txt.item r (i : Int) == PySem.Str.ofString "\"") = true then (if r.length ≤ i + 1 ∨ (Txt.item r ((i : Int) + 1) != PySem.Str.ofString "\"") = true then d else unqF r f (i + 2) (d ++ Txt.item r (i : Int))) else unqF r f (i + 1) (d ++ Txt.item r (i : Int))) else d
def unq (r : Str) : Str := if (Txt.slice r (some 3) (some 5) != PySem.Str.ofString " \"") = true then PySem.Str.ofString "" else unqF r r.length 5 (PySem.Str.ofString "")
theorem unqF_end {r : Str} {k i : Nat} {d : Str} (hi : ¬ i < r.length) : unqF r k i d = d := by
  cases k with
  | zero => rfl
  | succ k => rw [unqF, if_neg hi]
end Mine
end

section
open PySem PySem.W PyProof.Rows PySem.Calls
set_option Elab.async false
set_option linter.unusedVariables false
set_option linter.unusedSimpArgs false
set_option maxRecDepth 100000
set_option maxHeartbeats 2000000
set_option pp.maxSteps 1200
set_option pp.deepTerms false
namespace Mine
theorem fn_lkga : typeLookup (.type "function") "__getattribute__" = pure (some (.builtin "object.__getattribute__")) := by rw [typeLookup_type, builtinLookup_eq_fast]; kernel_rfl
theorem fn_lkname : typeLookup (.type "function") "__name__" = pure (some (.builtin "function.__name__")) := by rw [typeLookup_type, builtinLookup_eq_fast]; kernel_rfl
theorem fn_slotga : Slot "function" "__getattribute__" "object.__getattribute__" :=
  .of (owner := "object") (n := "__getattribute__") (by rw [typeLookup_type, builtinLookup_eq_fast]; kernel_rfl) (by decide +kernel) (by decide +kernel) (by decide +kernel)
    (by first | exact .inl (by decide +kernel) | exact .inr (by decide +kernel)) (by rw [isSubtype_type]; kernel_rfl)
theorem fn_entryga : entryFor table "object.__getattribute__" = some Builtin.«object.__getattribute__» :=
  entryFor_of_tree (by kernel_rfl)
theorem fn_argsga (a b : Value) : argsOk "object.__getattribute__" ⟨[a, b], []⟩ := by unfold argsOk; kernel_rfl
theorem fn_type : typeOf (.builtin "function.__name__") = pure (.type "getset_descriptor") := by show builtinType _ = _; rw [builtinType_eq_fast]; kernel_rfl
theorem fn_entry : entryFor table "function.__name__" = some Builtin.«function.__name__» := entryFor_of_tree (by kernel_rfl)
theorem fn_owner : (".".intercalate ("function.__name__".cutAt '.').dropLast) = "function" := by
  have e0 : "function.__name__".cutAt '.' = ["function", "__name__"] := by first | rfl | decide +kernel
  rw [e0]; decide +kernel
theorem fn_sub : isSubtype (.type "function") (.type "function") = pure true := by rw [isSubtype_type]; kernel_rfl
section
variable {prog : Program} {w : World} {A : Around} {E : Value → Shared → Prop} {h : Heap} {g : Array GenState} {d : Drawn} {t : Nat} {os : OsState} {a : Addr} {o : Obj} {fd : FuncData}
theorem fnam_get {R : Result → Shared → Prop} (hx : h.get? a = some o) (hc : o.cls = .type "function") (hd : o.data = .func fd) (hz : fd.name.length ≤ sizeLine) (hq : R (.ok (.ret (.str fd.name t))) ⟨h, g, d, t + 1, os⟩) :
    codeAny (model prog w) A (.call (.builtin "getset_descriptor.__get__") ⟨[.builtin "function.__name__", .ref a, .type "function"], []⟩) R ⟨h, g, d, t, os⟩ := by
  have hT : (⟨h, g, d, t, os⟩ : Shared).TypeIs (.ref a) "function" := ⟨_, hx, hc⟩
  have hT5 : (⟨h, g, d, t, os⟩ : Shared).TypeIs (.builtin "function.__name__") "getset_descriptor" := fn_type
  have f8 : isSubtype (.type "function") (.type (".".intercalate ("function.__name__".cutAt '.').dropLast)) = pure true := by rw [fn_owner]; exact fn_sub
  refine codeAny_call_builtin F.slot_gs_get.plain F.entry_gs_get (F.slot_gs_get.check _ _ _ _ _ _ _ _ hT5 (F.args_gs_get _ _ _) ?_)
  repeat (any_goals (first | assumption | wp_step))
  refine ⟨Code.quiet_builtin _ (by decide +kernel), codeAny_builtin fn_entry ?_⟩
  unfold Builtin.«function.__name__»
  have LF : Looks (model prog w) h (funcData (.ref a)) fd := (Looks.ld hx).andThen (by rw [hd]; exact .now)
  refine wpAny_bind (LF.at ?_)
  unfold retStr
  first
    | exact wpAny_bind (wpAny_bind (wpAny_mkStr (wpAny_pure (wpAny_pure hq)) hz))
    | exact wpAny_bind (wpAny_mkStr (wpAny_pure hq) hz)
    | exact wpAny_bind (wpAny_bind (wpAny_mkStr (wpAny_pure hq) hz))
theorem fnam_entry {tk : Tok} {Q : Fin → Shared → Prop} (hx : h.get? a = some o) (hc : o.cls = .type "function") (hd : o.data = .func fd) (hz : fd.name.length ≤ sizeLine) (hq : Q (.done (.ret (.str fd.name t))) ⟨h, g, d, t + 1, os⟩) :
    wpAny (model prog w) A (Builtin.«object.__getattribute__» ⟨[.ref a, .str "__name__" tk], []⟩) Q E ⟨h, g, d, t, os⟩ := by
  have hT : (⟨h, g, d, t, os⟩ : Shared).TypeIs (.ref a) "function" := ⟨_, hx, hc⟩
  have hT5 : (⟨h, g, d, t, os⟩ : Shared).TypeIs (.builtin "function.__name__") "getset_descriptor" := fn_type
  have f4 := fn_lkname
  have f5 := fn_type
  have f6 := F.slot_gs_get.lookup
  have f7 := F.slot_gs_set.lookup
  repeat (any_goals (first | assumption | wp_step))
  refine fnam_get hx hc hd hz ?_
  repeat (any_goals (first | assumption | wp_step))
theorem fnam_call {tk : Tok} {R : Result → Shared → Prop} (hx : h.get? a = some o) (hc : o.cls = .type "function") (hd : o.data = .func fd) (hz : fd.name.length ≤ sizeLine) (hq : R (.ok (.ret (.str fd.name t))) ⟨h, g, d, t + 1, os⟩) :
    codeAny (model prog w) A (.call (.builtin "object.__getattribute__") ⟨[.ref a, .str "__name__" tk], []⟩) R ⟨h, g, d, t, os⟩ :=
  codeAny_call_builtin fn_slotga.plain fn_entryga (fn_slotga.check _ _ _ _ _ _ _ _ (show (⟨h, g, d, t, os⟩ : Shared).TypeIs (.ref a) "function" from ⟨_, hx, hc⟩) (F.args_object_getattribute_2 _ _) (fnam_entry hx hc hd hz hq))
theorem fnam_by {tk : Tok} {fill expr : Bool} {Q : Value → Shared → Prop} (hx : h.get? a = some o) (hc : o.cls = .type "function") (hd : o.data = .func fd) (hz : fd.name.length ≤ sizeLine)
    (hq : Q (.str fd.name t) ⟨h, g, d, t + 1, os⟩) : wpAny (model prog w) A (getAttrBy (.ref a) (.str "__name__" tk) fill expr) Q E ⟨h, g, d, t, os⟩ := by
  have hT : (⟨h, g, d, t, os⟩ : Shared).TypeIs (.ref a) "function" := ⟨_, hx, hc⟩
  have f2 := fn_slotga.lookup
  have f3 := fn_slotga.bind (.ref a)
  have hx0 : (expr && onTheHeap (Value.builtin "object.__getattribute__")) = false := by cases expr <;> rfl
  repeat (any_goals (first | assumption | wp_step))
  refine fnam_call hx hc hd hz ?_
  repeat (any_goals (first | assumption | wp_step))
theorem fnam_attr {expr : Bool} {Q : Value → Shared → Prop} (hx : h.get? a = some o) (hc : o.cls = .type "function") (hd : o.data = .func fd) (hz : fd.name.length ≤ sizeLine)
    (hq : Q (.str fd.name (t + 1)) ⟨h, g, d, t + 1 + 1, os⟩) : wpAny (model prog w) A (getAttr (.ref a) "__name__" expr) Q E ⟨h, g, d, t, os⟩ := by
  unfold getAttr
  repeat (any_goals (first | assumption | with_reducible apply fnam_by hx hc hd hz | wp_step))
end
def fnNm (K : Frag) (a : Addr) : Option Str := match K.lookup a with
  | some ⟨.type n, _, .func fd, _⟩ => if n == "function" then some fd.name else none
  | _ => none
theorem fnNm_of {K : Frag} {h : Heap} {a : Addr} {nm : Str} (X : K.In h) (e : fnNm K a = some nm) : ∃ o fd, h.get? a = some o ∧ o.cls = .type "function" ∧ o.data = .func fd ∧ fd.name = nm := by
  unfold fnNm at e
  split at e
  · rename_i n d fd sl ho
    split at e
    · rename_i q; cases e; rw [beq_iff_eq.mp q] at ho; exact ⟨_, fd, X _ _ ho, rfl, rfl, rfl⟩
    · cases e
  · cases e
theorem fnam_K {prog : Program} {w : World} {A : Around} {E : Value → Shared → Prop} {s : Shared} {K : Frag} {h₀ : Heap} {L a : Addr} {m : Str → Option Value} {nm : Str} {expr : Bool} {Q : Value → Shared → Prop} (F : Fr h₀ L s.heap m) (X₀ : K.In h₀) (e : fnNm K a = some nm) (hz : nm.length ≤ sizeLine)
    (h : ∀ tk u, Q (.str nm tk) { s with toks := u }) : wpAny (model prog w) A (getAttr (.ref a) "__name__" expr) Q E s := by
  obtain ⟨o, fd, h1, h2, h3, rfl⟩ := fnNm_of (X₀.keeps F.keep) e
  obtain ⟨hh, g, d, t, os⟩ := s
  exact fnam_attr h1 h2 h3 hz (h _ _)
theorem f_name236 {w : World} : fnNm (Mine.top.heap_1 w.params) 236 = some "call" := by kernel_rfl
end Mine
end

theorem Mine.rs13 {M : Model} {A : Around} {Q : Nat → Shared → Prop} {E : Value → Shared → Prop} {s : Shared} (h : wpAny M A (pure 1) Q E s) : wpAny M A (pure 1) Q E s := by first | (walk1; fail) | exact h
section
open PySem PySem.W PyProof.Rows PySem.Calls
set_option Elab.async false
set_option linter.unusedVariables false
set_option linter.unusedSimpArgs false
set_option maxRecDepth 100000
set_option maxHeartbeats 2000000
set_option pp.maxSteps 1200
set_option pp.deepTerms false
namespace Mine
set_option maxHeartbeats 6000000
local macro_rules | `(tactic| walk_at $s) => if s.getString == "exec" then `(tactic| walk_at "own s0") else Lean.Macro.throwUnsupported
theorem parse_ok {w : World} {mean : ExcName → Option Value} {mg mb : Str → Option Value} : ∀ (dp un : Nat) (gd : Option (List Code)) (cn : Str) (cs : Scope) (a : Addr) (ccd : Value) (cl : List (Str × Addr)) (outer : List Env) (A₀ : Around) (base h₀ : Heap) (L : Addr) (m : Str → Option Value) (news : List (Addr × Obj)) (s : Shared) (Q E : Value → Shared → Prop) (r : Str) (tr : Tok),
    ∀ (hB : Below A₀ base outer h₀) (hF : Fr h₀ L s.heap m) (hX : (Mine.top.heap_1 w.params).In h₀) (hN : News h₀ L s.heap news) (hT : Top topProg (looseW Mine.top.view_1 [Str.ofString "_safe_string", Str.ofString "_Accumulator"] ++ List.map (fun x => x.name) (recsOf Mine.top.view_1) ++ List.map (fun x => x.fst) (litsOf Mine.top.view_1) ++ List.map (fun x => x.name) (clssOf Mine.top.view_1 (looseW Mine.top.view_1 [Str.ofString "_safe_string", Str.ofString "_Accumulator"]))) mean mg mb h₀) (hk : cs.kind = .function) (hd : dp + 2 < recursionLimit) (hu : un + 60 < cLine) (hrl : r.length ≤ 20) (hs : (Txt.slice r none (some 3) != PySem.Str.ofString "257") = false)
    (hret : ∀ h' tk' t, Fr h₀ L h' m → News h₀ L h' news → Q (.str (unq r) t) { s with heap := h', toks := tk' }),
    wpAny (model PySem.Challenge.rw_wu0081_01.row.prog w) (ktrTop dp un gd cn cs L a ccd cl outer) (call (.ref 222) [.str r tr]) Q E s := by
  k_fill
  intro dp un gd cn cs a ccd cl outer A₀ base h₀ L m news s Q E r tr B F X N T hk hd hu hrl hs hret
  refine wpAny_call ?_
  k_dflt (refine' code_def ?k1 ?k2 ?k3 ?k4 ?k5 ?kA ?kF ?kK ?k6 ?k7 ?k8 ?k9 ?kB ?_ ?c2 ?c3 ?c4 ?c5; (case kA => exact rfl); (case kF => exact rfl); (case kK => assumption); (case k1 => k_asm); (case k2 => k_asm); (case k3 => k_asm); (case k4 => k_asm); (case k5 => k_asm); (case k6 => k_is); (case k7 => k_is); (case k8 => ktr_room); (case k9 => first | exact BindsTo.of_eq rfl | exact binds_K (by k_in) rfl (by k_is) rfl rfl rfl); (case c5 => decide); (case kB => exact locs rfl); (case c2 => exact rfl); (case c3 => exact rfl); (case c4 => exact rfl); k_whole; intro g' L' h' FG' F' N' B' X' T'; (try dsimp only); (try k_fold))
  k_steps
  · (with_reducible rename (_ != _) = true => hne3)
    (with_reducible rename Fr h₀ L _ m => F8)
    (with_reducible rename News h₀ L _ _ => N8)
    have e : unq r = PySem.Str.ofString "" := by unfold unq; rw [if_pos hne3]
    rw [e] at hret
    exact hret _ _ _ F8 N8
  (with_reducible rename Fr _ _ _ _ => F1)
  (with_reducible rename News _ _ _ _ => N1)
  (with_reducible rename (Txt.slice r (some 3) _ != _) = false => hne3)
  have e1 : unq r = unqF r r.length 5 (PySem.Str.ofString "") := by unfold unq; rw [if_neg (by rw [hne3]; decide)]
  rw [e1] at hret
  refine while_K1 (fun k m' => ∃ i d t1 t2 t3 t4, m' "resp" = some (.str r t1) ∧ m' "dirname" = some (.str d t2) ∧ m' "i" = some (.int (i : Nat) t3) ∧ m' "n" = some (.int r.length t4) ∧ r.length ≤ i + k ∧ d.length ≤ i ∧ unqF r k i d = unqF r r.length 5 (PySem.Str.ofString "")) r.length F1 N1 (exI6 5 _ _ _ _ _ ⟨rfl, rfl, rfl, rfl, by omega, by decide +kernel, rfl⟩) ?_
  intro k m1 h3 tk9 hJ F3 N3 S9 hS9 E9
  refine absG fun G99 k99 => ?_
  refine exE6 hJ fun i d t1 t2 t3 t4 h9z0 => ?_
  refine andE7 h9z0 fun j1 j2 j3 j4 hk9 hdl hu9 => ?_
  clear h9z0 hJ
  refine k99.go ?_
  clear k99 G99
  rw [known4 j1 j2 j3 j4] at F3
  clear F1 N1
  have ho : (PySem.Str.ofString "\"").length = 1 := by decide +kernel
  have st : ∀ (h1 : i < r.length), ∃ k', k = k' + 1 := fun h1 => ⟨k - 1, by omega⟩
  k_steps
  · (with_reducible rename (_ == _) = true => q1)
    (with_reducible rename Fr h₀ L _ m => F8)
    (with_reducible rename News h₀ L _ _ => N8)
    have hi : i < r.length := by omega
    refine absG fun G99 k99 => ?_
    obtain ⟨k', rfl⟩ := st hi
    refine k99.go ?_
    clear k99 G99
    rw [unqF, if_pos hi, if_pos q1, if_pos (.inl (by omega))] at hu9
    rw [← hu9] at hret
    exact hret _ _ _ F8 N8
  · (with_reducible rename (_ == _) = true => q1)
    (with_reducible rename (_ != _) = true => q2)
    (with_reducible rename Fr h₀ L _ m => F8)
    (with_reducible rename News h₀ L _ _ => N8)
    have hi : i < r.length := by omega
    refine absG fun G99 k99 => ?_
    obtain ⟨k', rfl⟩ := st hi
    refine k99.go ?_
    clear k99 G99
    rw [unqF, if_pos hi, if_pos q1, if_pos (.inr q2)] at hu9
    rw [← hu9] at hret
    exact hret _ _ _ F8 N8
  · (with_reducible rename (_ == _) = true => q1)
    (with_reducible rename (Txt.item r (_ + _) != _) = false => q2)
    have hi : i < r.length := by omega
    refine absG fun G99 k99 => ?_
    obtain ⟨k', rfl⟩ := st hi
    refine k99.go ?_
    clear k99 G99
    rw [unqF, if_pos hi, if_pos q1, if_neg (fun h => by
      rcases h with h | h
      · omega
      · rw [q2] at h; cases h)] at hu9
    (with_reducible rename Fr _ _ _ _ => F5)
    (with_reducible rename News _ _ _ _ => N5)
    exact hS9 _ ⟨_, _, _, rfl, F5, N5, k', Nat.lt_succ_self _, i + 2, d ++ Txt.item r (i : Int), t1, _, _, t4, rfl, rfl, rfl, rfl, by omega, by omega, hu9⟩
  · (with_reducible rename (_ == _) = false => q1)
    have hi : i < r.length := by omega
    refine absG fun G99 k99 => ?_
    obtain ⟨k', rfl⟩ := st hi
    refine k99.go ?_
    clear k99 G99
    rw [unqF, if_pos hi, if_neg (by rw [q1]; decide)] at hu9
    (with_reducible rename Fr _ _ _ _ => F5)
    (with_reducible rename News _ _ _ _ => N5)
    exact hS9 _ ⟨_, _, _, rfl, F5, N5, k', Nat.lt_succ_self _, i + 1, d ++ Txt.item r (i : Int), t1, _, _, t4, rfl, rfl, rfl, rfl, by omega, by omega, hu9⟩
  · have hi : ¬ i < r.length := by omega
    (with_reducible rename Fr h₀ L _ m => F8)
    (with_reducible rename News h₀ L _ _ => N8)
    rw [unqF_end hi] at hu9
    rw [← hu9] at hret
    exact hret _ _ _ F8 N8
end Mine
end

theorem Mine.rs14 {M : Model} {A : Around} {Q : Nat → Shared → Prop} {E : Value → Shared → Prop} {s : Shared} (h : wpAny M A (pure 1) Q E s) : wpAny M A (pure 1) Q E s := by first | (walk1; fail) | exact h
section
open PySem PySem.W PyProof.Rows PySem.Calls
set_option Elab.async false
set_option linter.unusedVariables false
set_option linter.unusedSimpArgs false
set_option maxRecDepth 100000
set_option maxHeartbeats 2000000
set_option pp.maxSteps 1200
set_option pp.deepTerms false
namespace Mine
set_option maxHeartbeats 12000000
local macro_rules | `(tactic| k_room) => `(tactic| ktr_room)
local macro_rules | `(tactic| k_units) => `(tactic| ktr_units)
theorem leave_onSX {M : Model} {A : Around} {E : Value → Shared → Prop} {s' : Shared} {base g g₂ : Heap} {outer : List Env} {L a e : Addr} {m : Str → Option Value} {news : List (Addr × Obj)} {name : Str} {scope : Scope} {cd : Value} {cl : List (Str × Addr)} {t : Addr} {Q : Unit → Shared → Prop} {cls : Value} {vs : List Value} (K : Below A base outer g) (F : Fr g L g₂ m) (R : RaisedS base g₂ (envX name scope L a cd cl :: outer) e cls t vs news s'.heap) (hsm : g₂.UpToSlots s'.heap)
    (hQ : ∀ h', RaisedS base g outer e cls t vs news h' → RaisedK base outer e cls t vs news h' → g.UpToSlots h' → Q () { s' with heap := h' }) :
    wpAny M (A.deeper (envX name scope L a cd cl)) (leaving (envX name scope L a cd cl) (.ref e)) Q E s' := by
  refine absG fun G99 k99 => ?_
  obtain ⟨⟨B, hB, hBG, hl, hfl, hnew⟩, htup⟩ := R
  refine k99.go ?_
  clear k99 G99
  exact wpAny_leaves_onW (Around.frames_deeper K.stack) rfl hfl fun h' x1 x2 =>
    have R : RaisedS base g outer e cls t vs news h' := ⟨⟨B, hB, fun b o q nm => hBG b o (F.keep b o q) (fun hm => by
      rcases memX rfl hm with z | z
      · rw [z, kts_self F] at q
        cases q
      · exact nm z), fun q hq => ⟨(hl q hq).1, kts_none F.keep (hl q hq).2.1, (hl q hq).2.2⟩, x1, hnew⟩, htup.of_slots x2⟩
    hQ h' R R.toK ((Heap.UpToSlots.of_keeps F.keep).trans (hsm.trans x2))
def toldOf (r nm : Str) : Str := if Txt.slice r none (some 3) = PySem.Str.ofString "257" then unq r else PySem.Str.ofString "<" ++ nm ++ PySem.Str.ofString " " ++ PySem.Str.ofString "call" ++ PySem.Str.ofString "() failed>"
theorem told_len (nm : Str) (h : nm.length ≤ 3) : (Str.empty ++ PySem.Str.ofString "<" ++ nm ++ PySem.Str.ofString " " ++ PySem.Str.ofString "call" ++ PySem.Str.ofString "() failed>").length ≤ sizeLine :=
  Nat.le_trans (KT.len_app (B := 11) (KT.len_app (B := 4) (KT.len_app (B := 1) (KT.len_app (B := 3) (KT.len_app (A := 0) (B := 1) (by decide +kernel) (by decide +kernel)) h) (by decide +kernel)) (by decide +kernel)) (by decide +kernel)) (by decide)
local macro_rules | `(tactic| walk_at $s) => if s.getString == "exec" then `(tactic| walk_at "own s0") else if s.getString == "leaving ref" then `(tactic| (k_here; (with_reducible rename KtsDicts _ _ => kdX); (refine' leave_onSX ?k1 ?k2 ?k3 ?k4 ?_; (case k3 => assumption); (case k2 => assumption); (case k1 => assumption); (case k4 => assumption); k_whole; intro h' S' R' U'; (try dsimp only at S' R' U' ⊢)))) else if s.getString ∈ ["eval Lambda", "getAttr"] then `(tactic| refine stop_here ?_) else if s.getString == "call ref" then `(tactic| ((first | (with_reducible show wpAny _ _ (call (Value.ref 29) _ _) _ _ _) | (with_reducible show wpAny _ _ (call (Value.ref 222) _ _) _ _ _)); refine stop_here ?_)) else if s.getString == "joinParts" then `(tactic| ((with_reducible refine joinParts_nilE ?_); refine joinParts_nil (hsz := told_len _ (by assumption)) ?_)) else Lean.Macro.throwUnsupported
theorem f_codeHd296 {w : World} : codeHdIn (Mine.top.heap_1 w.params) 296 292 = true := by kernel_rfl
theorem fr_k {h₀ h h' : Heap} {L : Addr} {m : Str → Option Value} (F : Fr h₀ L h m) (k : ∀ b o, h.get? b = some o → h'.get? b = some o) : Fr h₀ L h' m := ⟨F.ns.at' fun o e => k _ o e, fun b o e => k b o (F.keep b o e), F.above⟩
theorem news_k {h₀ h h' : Heap} {L : Addr} {news : List (Addr × Obj)} (N : News h₀ L h news) (k : ∀ b o, h.get? b = some o → h'.get? b = some o) : News h₀ L h' news := fun p hp => ⟨k _ _ (N p hp).1, (N p hp).2⟩
theorem told_ok {w : World} {mean : ExcName → Option Value} {mg mb : Str → Option Value} : ∀ (dp un : Nat) (gd : Option (List Code)) (cn : Str) (cs : Scope) (a : Addr) (ccd : Value) (cl : List (Str × Addr)) (outer : List Env) (A₀ : Around) (base h₀ : Heap) (L : Addr) (m : Str → Option Value) (news : List (Addr × Obj)) (s : Shared) (Q E : Value → Shared → Prop) (r nm : Str) (tr tn : Tok) (ps : Array Value) (rest : List (Addr × Obj)) (hnews : news = (292, tabObj ps) :: rest) (hout : outer = []) (hXB : (Mine.top.heap_1 w.params).In base) (hTB : Top topProg (looseW Mine.top.view_1 [Str.ofString "_safe_string", Str.ofString "_Accumulator"] ++ List.map (fun x => x.name) (recsOf Mine.top.view_1) ++ List.map (fun x => x.fst) (litsOf Mine.top.view_1) ++ List.map (fun x => x.name) (clssOf Mine.top.view_1 (looseW Mine.top.view_1 [Str.ofString "_safe_string", Str.ofString "_Accumulator"]))) mean mg mb base),
    ∀ (hB : Below A₀ base outer h₀) (hF : Fr h₀ L s.heap m) (hX : (Mine.top.heap_1 w.params).In h₀) (hN : News h₀ L s.heap news) (hT : Top topProg (looseW Mine.top.view_1 [Str.ofString "_safe_string", Str.ofString "_Accumulator"] ++ List.map (fun x => x.name) (recsOf Mine.top.view_1) ++ List.map (fun x => x.fst) (litsOf Mine.top.view_1) ++ List.map (fun x => x.name) (clssOf Mine.top.view_1 (looseW Mine.top.view_1 [Str.ofString "_safe_string", Str.ofString "_Accumulator"]))) mean mg mb h₀) (hk : cs.kind = .function) (hd : dp + 12 < recursionLimit) (hu : un + 200 < cLine) (hr : ∀ p ∈ rest, p.1 ≠ 292) (hrl : r.length ≤ 20) (hnl : nm.length ≤ 3) (hps : LamTab ⟨177, 24, 177, 47⟩ "_law_told.<locals>.<lambda>" ps rest)
    (hret : ∀ h' tk' t ps' rest', Fr h₀ L h' m → News h₀ L h' ((292, tabObj ps') :: rest') → LamTab ⟨177, 24, 177, 47⟩ "_law_told.<locals>.<lambda>" ps' rest' → (∀ q ∈ rest, q ∈ rest') → (∀ q ∈ rest', q ∈ rest ∨ ((@LT.lt Nat _ 292 q.1) ∧ ∀ x ∈ rest, x.1 < q.1)) → ((ps' = ps ∧ rest' = rest) ∨ ∃ q, rest' = q :: rest ∧ LamTab ⟨177, 24, 177, 47⟩ "_law_told.<locals>.<lambda>" ps' [q] ∧ (@LT.lt Nat _ 292 q.1) ∧ ∀ x ∈ rest, x.1 < q.1) → Q (.str (toldOf r nm) t) { s with heap := h', toks := tk' }),
    wpAny (model PySem.Challenge.rw_wu0081_01.row.prog w) (ktrTop dp un gd cn cs L a ccd cl outer) (call (.ref 297) [.str r tr, .str nm tn]) Q E s := by
  k_fill
  intro dp un gd cn cs a ccd cl outer A₀ base h₀ L m news s Q E r nm tr tn ps rest hnews hout hXB hTB B F X N T hk hd hu hr hrl hnl hps hret
  refine absG fun G99 k99 => ?_
  subst hnews hout
  refine k99.go ?_
  clear k99 G99
  have hC := codeHd_of_K X f_codeHd296
  refine wpAny_call ?_
  k_dflt (refine' enterCS0 ?k1 ?k2 ?k3 ?k4 ?k5 ?kA ?kF ?kK ?k6 ?k7 ?k8 ?k9 ?kB ?kD ?_ ?c2 ?c3 ?c4; (case kA => exact rfl); (case kF => exact rfl); (case kK => assumption); (case k1 => k_asm); (case k2 => k_asm); (case k3 => k_asm); (case k4 => k_asm); (case k5 => k_asm); (case k6 => k_is); (case k7 => k_is); (case k8 => ktr_room); (case k9 => first | exact BindsTo.of_eq rfl | exact binds_K (by k_in) rfl (by k_is) rfl rfl rfl); (case kB => exact rfl); (case kD => decide +kernel); (case c2 => exact rfl); (case c3 => exact rfl); (case c4 => exact rfl); k_whole; intro g' L' h' tk' cells' FG' F' N' Y' B' X' T' l1 D'; (try k_lt l1); k_cells Y'; (try simp only [List.cons_append, List.nil_append] at N'); (try dsimp only); (try k_fold))
  have hl2 : ∀ p ∈ rest, p.1 ≠ L' + 1 := fun p hp => Nat.ne_of_lt (Nat.lt_succ_of_lt (lt_of_all l1.2 p hp))
  have hC' := codeHd_of_K X' f_codeHd296
  have hr' : ∀ p ∈ rest, p.1 ≠ 292 := hr
  have hcP : @Ne Nat (L' + 1) 292 := Nat.ne_of_gt (Nat.lt_succ_of_lt l1.1)
  k_steps
  unfold Stop
  (k_dflt (refine' lam_any ?F ?N ?T ?C ?cd ?ht ?hcP ?hr ?hdef ?hcl ?_; (case F => k_asm); (case N => k_asm); (case T => k_asm); (case C => assumption); (case cd => exact rfl); (case ht => assumption); (case hcP => assumption); (case hr => assumption); (case hdef => exact rfl); (case hcl => exact rfl); k_whole); intro f9q c9q oc9q vs9q t9q ctv9q h9q tk9q ps9q rest9q F9q N9q d9q v9q sub9q new9q tab9q or9q l9q; (try dsimp only at F9q N9q))
  k_steps
  unfold Stop
  (refine wpAny_call ?_; k_dflt (refine' enterSX ?k1 ?k2 ?k3 ?k4 ?k5 ?XB ?TB ?D ?T0 ?kA ?kF ?kK ?k6 ?k7 ?k8 ?k9 ?kB ?_ ?c2 ?c3 ?c4 ?c5; (case kA => exact rfl); (case kF => exact rfl); (case kK => exact rfl); (case k2 => k_asm); (case k1 => k_asm); (case XB => assumption); (case TB => assumption); (case D => assumption); (case T0 => first | assumption | exact KtsTurn.refl); (case k3 => k_asm); (case k4 => k_asm); (case k5 => k_asm); (case k6 => k_is); (case k7 => k_is); (case k8 => k_room); (case k9 => first | exact binds_K (by k_in) rfl (by k_is) rfl rfl rfl | exact BindsTo.of_eq rfl); (case kB => exact locs rfl); (case c2 => exact rfl); (case c3 => exact rfl); (case c4 => exact rfl); (case c5 => decide); k_whole; intro gzq Lzq hzq FGzq Fzq Nzq Bzq Xzq Tzq Dzq; (try dsimp only); (try k_fold)))
  k_steps
  refine ks_call2 rfl keeps_F ?_
  (with_reducible rename Obj.IsDictOf _ _ _ => hdO)
  refine absG fun G99 k99 => ?_
  obtain ⟨nd, hdO⟩ := nilDict_of hdO
  refine k99.go ?_
  clear k99 G99
  (with_reducible rename (_ == sysModules) = false => hdS)
  (with_reducible rename Fr _ _ _ _ => F19)
  (with_reducible rename News _ _ _ _ => N19)
  refine evalArgs_SK (N19 _ (.tail _ (.head _))).1 (N19 _ (.head _)).1 hdO hdS (fun A' Q' E' q => ?_) (fun A' Q' E' h9 k9 q => ?_) (fun h9 k9 => ?_)
  · exact wpAny_bind (wpAny_Name (wpAny_loadName_local rfl rfl F19.ns rfl (wpAny_bind (wpAny_standAt (wpAny_pure q)))) (by decide))
  · exact wpAny_bind (wpAny_Name (wpAny_loadName_local rfl rfl (F19.ns.at' fun o e => k9 _ _ e) rfl (wpAny_bind (wpAny_standAt (wpAny_pure q)))) (by decide))
  have F10 := fr_k F19 k9
  have N10 := news_k N19 k9
  clear F19 N19
  refine ⟨FnAt.of N10 (.tail _ (.tail _ (.head _))), ?_⟩
  k_steps
  all_goals (try unfold Stop)
  rcases hne : (Txt.slice r none (some 3) != PySem.Str.ofString "257") with _ | _
  · have e0 : toldOf r nm = unq r := by unfold toldOf; rw [if_pos (by simpa using hne)]
    rw [e0] at hret
    refine' parse_ok _ _ _ _ _ _ _ _ _ _ _ _ _ _ _ _ _ _ r _ ?kB ?kF ?kX ?kN ?kT ?kk ?kd ?ku hrl hne ?kr
    (case kB => k_asm); (case kF => k_asm); (case kX => assumption); (case kN => k_asm); (case kT => k_asm); (case kk => exact rfl); (case kd => ktr_room); (case ku => first | ktr_units | (have hcL9 := cLine_is; (try simp only [units_under_make, units_in1, units_deeper, Around.mark_units, units_caller]); (try dsimp only [ktrTop]); omega))
    case kr =>
    intro h' tk' t F9 N9
    k_steps
    (with_reducible rename Fr h₀ L _ m => F8)
    (with_reducible rename News h₀ L _ _ => N8)
    exact hret _ _ _ _ _ F8 (fun p hp => N8 p (mTl 5 hp)) (by assumption) (by assumption) (by assumption) (by assumption)
  · have e : toldOf r nm = Str.empty ++ PySem.Str.ofString "<" ++ nm ++ PySem.Str.ofString " " ++ PySem.Str.ofString "call" ++ PySem.Str.ofString "() failed>" := by
      unfold toldOf; rw [if_neg (fun q => by rw [q] at hne; revert hne; decide +kernel)]; rfl
    rw [e] at hret
    refine wpAny_call ?_
    k_dflt (refine' code_def ?k1 ?k2 ?k3 ?k4 ?k5 ?kA ?kF ?kK ?k6 ?k7 ?k8 ?k9 ?kB ?_ ?c2 ?c3 ?c4 ?c5; (case kA => exact rfl); (case kF => exact rfl); (case kK => exact rfl); (case k1 => k_asm); (case k2 => k_asm); (case k3 => k_asm); (case k4 => k_asm); (case k5 => k_asm); (case k6 => k_is); (case k7 => k_is); (case k8 => ktr_room); (case k9 => first | exact BindsTo.of_eq rfl | exact binds_K (by k_in) rfl (by k_is) rfl rfl rfl); (case c5 => decide); (case kB => exact locs rfl); (case c2 => exact rfl); (case c3 => exact rfl); (case c4 => exact rfl); k_whole; intro g' L' h' FG' F' N' B' X' T'; (try dsimp only); (try k_fold))
    k_steps
    unfold Stop
    ((refine' fnam_K ?F ?X f_name236 ?z ?_); (case F => k_asm); (case X => k_asm); (case z => decide +kernel); intro tk9q u9q)
    k_steps
    (with_reducible rename Fr h₀ L _ m => F8)
    (with_reducible rename News h₀ L _ _ => N8)
    exact hret _ _ _ _ _ F8 (fun p hp => N8 p (mTl 5 hp)) (by assumption) (by assumption) (by assumption) (by assumption)
end Mine
end

section
open PySem PySem.W PyProof.Rows PySem.Calls
set_option Elab.async false
set_option linter.unusedVariables false
set_option linter.unusedSimpArgs false
set_option maxRecDepth 100000
set_option maxHeartbeats 2000000
set_option pp.maxSteps 1200
set_option pp.deepTerms false
namespace Mine
def spanL (words : List Str) (h j : Nat) : Int := rowL ((words.take j).drop h)
def bit (words : List Str) (wd : Int) (h j : Nat) : Bool := decide (spanL words h j ≤ wd)
theorem rowL_app : ∀ a b : List Str, rowL (a ++ b) = rowL a + rowL b
  | [], b => by simp [rowL]
  | x :: a, b => by simp only [List.cons_append, rowL, rowL_app a b]; omega
theorem rowL_nn : ∀ a : List Str, 0 ≤ rowL a
  | [] => by simp [rowL]
  | x :: a => by have := rowL_nn a; simp only [rowL]; omega
theorem join_rowL : ∀ ss : List Str, ss ≠ [] → ((Str.join (PySem.Str.ofString " ") ss).length : Int) + 1 = rowL ss
  | [], h => absurd rfl h
  | [x], _ => by show (x.length : Int) + 1 = _; simp only [rowL]; omega
  | x :: y :: r, _ => by
    have ih := join_rowL (y :: r) (by simp)
    show ((x ++ PySem.Str.ofString " " ++ Str.join (PySem.Str.ofString " ") (y :: r)).length : Int) + 1 = _
    rw [strLen_append, strLen_append, rowL, ← ih]
    have e : (PySem.Str.ofString " ").length = 1 := by decide +kernel
    omega
theorem span_drop {words : List Str} {h j : Nat} (hh : h < j) (hj : j ≤ words.length) : (words.take j).drop h = words.getD h ⟨#[]⟩ :: (words.take j).drop (h + 1) := by
  have hl : h < (words.take j).length := by rw [List.length_take]; omega
  rw [List.drop_eq_getElem_cons hl, List.getElem_take, List.getD_eq_getElem?_getD, List.getElem?_eq_getElem (by omega)]; rfl
theorem span_take {words : List Str} {h j : Nat} (hh : h ≤ j) (hj : j < words.length) : (words.take (j + 1)).drop h = (words.take j).drop h ++ [words.getD j ⟨#[]⟩] := by
  rw [List.take_succ_eq_append_getElem hj, List.drop_append_of_le_length (by rw [List.length_take]; omega), List.getD_eq_getElem?_getD, List.getElem?_eq_getElem hj]; rfl
theorem wayOk_bit {words : List Str} {wd : Int} {h j : Nat} (hh : h < j) (hj : j ≤ words.length) : wayOk words wd j h = (h + 1 == j || bit words wd h j) := by
  unfold wayOk bit spanL
  have e := join_rowL ((words.take j).drop h) (by rw [span_drop hh hj]; simp)
  congr 1
  exact decide_eq_decide.mpr (by omega)
theorem bit_mono1 {words : List Str} {wd : Int} {h j : Nat} (hh : h < j) (hj : j ≤ words.length) (b : bit words wd h j = true) : bit words wd (h + 1) j = true := by
  unfold bit spanL at *
  rw [decide_eq_true_eq] at *
  rw [span_drop hh hj, rowL] at b
  omega
theorem bit_mono2 {words : List Str} {wd : Int} {h j : Nat} (hh : h ≤ j) (hj : j < words.length) (b : bit words wd h (j + 1) = true) : bit words wd h j = true := by
  unfold bit spanL at *
  rw [decide_eq_true_eq] at *
  rw [span_take hh hj, rowL_app] at b
  have := rowL_nn [words.getD j ⟨#[]⟩]
  omega
def fB (b : Nat → Nat → Bool) (j : Nat) : List Nat := natsOf j fun h => h + 1 == j || b h j
def seenB (b : Nat → Nat → Bool) (vals : List Nat) (j : Nat) : Nat → Nat → Nat
  | 0, seen => seen
  | h + 1, seen => if b h j = false ∧ h + 1 < j then seen else seenB b vals j h (seen ||| 2 ^ vals.getD h 0)
def valB (b : Nat → Nat → Bool) : Nat → List Nat
  | 0 => []
  | j + 1 => valB b j ++ [mexF (seenB b (valB b j) j j 0) 8 0]
def placeB (b : Nat → Nat → Bool) : Nat → List Nat × Nat
  | 0 => ([0], 0)
  | k + 1 => let p := placeB b k; if b p.2 (k + 1) = false ∧ p.2 < k then (p.1 ++ [k + 1], k + 1) else p
def accL (words : List Str) (h j : Nat) : Nat → List Str
  | 0 => []
  | n + 1 => accL words h j n ++ [words.getD (j - 1 - n) ⟨#[]⟩]
theorem seen_eq {words : List Str} {wd : Int} (vals : List Nat) {j : Nat} (hj : j ≤ words.length) : ∀ (h : Nat) (acc : List Str) (seen : Nat), h ≤ j → rowL acc = spanL words h j → (acc ≠ [] ↔ h < j) → seenF words wd vals h acc seen = seenB (bit words wd) vals j h seen
  | 0, _, _, _, _, _ => rfl
  | h + 1, acc, seen, hh, ha, hn => by
    have e : rowL (acc ++ [words.getD h ⟨#[]⟩]) = spanL words h j := by
      rw [rowL_app, ha]; unfold spanL
      rw [span_drop (words := words) (h := h) (j := j) (by omega) hj, rowL, rowL, rowL]; omega
    rw [seenF, seenB, e]
    have c : (wd < spanL words h j ∧ acc ≠ []) ↔ (bit words wd h j = false ∧ h + 1 < j) := by
      unfold bit
      rw [decide_eq_false_iff_not, hn]; omega
    by_cases q : wd < spanL words h j ∧ acc ≠ []
    · rw [if_pos q, if_pos (c.mp q)]
    · rw [if_neg q, if_neg (fun z => q (c.mpr z))]
      exact seen_eq vals hj h _ _ (by omega) e ⟨fun _ => by omega, fun _ => by simp⟩
theorem val_eq {words : List Str} {wd : Int} : ∀ j, j ≤ words.length + 1 → valN words wd j = valB (bit words wd) j
  | 0, _ => rfl
  | j + 1, hj => by
    rw [valN, valB, val_eq j (by omega), seen_eq (words := words) (wd := wd) (valB (bit words wd) j) (j := j) (by omega) j [] 0 (Nat.le_refl _) (by
      unfold spanL; rw [List.drop_of_length_le (by rw [List.length_take]; omega)]) ⟨fun h => absurd rfl h, fun h => absurd h (Nat.lt_irrefl _)⟩]
theorem place_eq {words : List Str} {wd : Int} : ∀ k, k ≤ words.length → (tAt wd words k).places = (placeB (bit words wd) k).1.map (fun (x : Nat) => (x : Int)) ∧ (tAt wd words k).cur = (words.take k).drop (placeB (bit words wd) k).2 ∧ (placeB (bit words wd) k).2 ≤ k
  | 0, _ => ⟨rfl, rfl, Nat.le_refl _⟩
  | k + 1, hk => by
    obtain ⟨h1, h2, h3⟩ := place_eq (words := words) (wd := wd) k (by omega)
    simp only [tAt, tStep, placeB]
    have e : rowL (tAt wd words k).cur + (1 + ((words.getD k ⟨#[]⟩).length : Int)) = spanL words (placeB (bit words wd) k).2 (k + 1) := by
      unfold spanL
      rw [span_take h3 (by omega), rowL_app, h2]; simp only [rowL]; omega
    have n : (tAt wd words k).cur ≠ [] ↔ (placeB (bit words wd) k).2 < k := by
      rw [h2]
      constructor
      · intro q
        rcases Nat.lt_or_ge (placeB (bit words wd) k).2 k with z | z
        · exact z
        · exact absurd (List.drop_of_length_le (by rw [List.length_take]; omega)) q
      · intro z
        rw [span_drop z (by omega)]; simp
    have c : (wd < rowL (tAt wd words k).cur + (1 + ((words.getD k ⟨#[]⟩).length : Int)) ∧ (tAt wd words k).cur ≠ []) ↔ (bit words wd (placeB (bit words wd) k).2 (k + 1) = false ∧ (placeB (bit words wd) k).2 < k) := by
      rw [e, n]; unfold bit; rw [decide_eq_false_iff_not]; omega
    by_cases q : wd < rowL (tAt wd words k).cur + (1 + ((words.getD k ⟨#[]⟩).length : Int)) ∧ (tAt wd words k).cur ≠ []
    · rw [if_pos q, if_pos (c.mp q)]
      refine ⟨by rw [h1, List.map_append]; rfl, ?_, Nat.le_refl _⟩
      show [] = _
      rw [List.drop_of_length_le (by rw [List.length_take]; omega)]
    · rw [if_neg q, if_neg (fun z => q (c.mpr z))]
      refine ⟨h1, ?_, by omega⟩
      show (tAt wd words k).cur ++ [words.getD k ⟨#[]⟩] = _
      rw [span_take h3 (by omega), h2]
def rowsB (words : List Str) (ps : List Nat) : List Str := (List.range (ps.length - 1)).map fun t => rowS ((words.take (ps.getD (t + 1) 0 - 1)).drop (ps.getD t 0))
theorem place_last (b : Nat → Nat → Bool) : ∀ k, (placeB b k).1 ≠ [] ∧ (placeB b k).1.getD ((placeB b k).1.length - 1) 0 = (placeB b k).2
  | 0 => ⟨by simp [placeB], rfl⟩
  | k + 1 => by
    simp only [placeB]
    split
    · refine ⟨by simp, ?_⟩
      rw [List.length_append, List.getD_eq_getElem?_getD, List.getElem?_append_right (by simp)]; simp
    · exact place_last b k
theorem lines_eq {words : List Str} {wd : Int} : ∀ k, k ≤ words.length → (tAt wd words k).lines = rowsB words (placeB (bit words wd) k).1
  | 0, _ => rfl
  | k + 1, hk => by
    have ih := lines_eq (words := words) (wd := wd) k (by omega)
    obtain ⟨h1, h2, h3⟩ := place_eq (words := words) (wd := wd) k (by omega)
    obtain ⟨h1', _, _⟩ := place_eq (words := words) (wd := wd) (k + 1) hk
    obtain ⟨l1, l2⟩ := place_last (bit words wd) k
    simp only [tAt, tStep, placeB] at h1' ⊢
    by_cases q : wd < rowL (tAt wd words k).cur + (1 + ((words.getD k ⟨#[]⟩).length : Int)) ∧ (tAt wd words k).cur ≠ []
    · rw [if_pos q] at h1' ⊢
      by_cases c : bit words wd (placeB (bit words wd) k).2 (k + 1) = false ∧ (placeB (bit words wd) k).2 < k
      · rw [if_pos c]
        show (tAt wd words k).lines ++ [rowS (tAt wd words k).cur] = _
        rw [ih, h2, ← l2]
        generalize (placeB (bit words wd) k).1 = ps at l1
        have hl : 0 < ps.length := List.length_pos_iff.mpr l1
        have e : (ps ++ [k + 1]).length - 1 = (ps.length - 1) + 1 := by rw [List.length_append]; simp; omega
        unfold rowsB
        rw [e, List.range_succ, List.map_append]
        congr 1
        · refine List.map_congr_left fun t ht => ?_
          have ht' := List.mem_range.mp ht
          simp only [List.getD_eq_getElem?_getD]
          rw [List.getElem?_append_left (show t + 1 < ps.length by omega), List.getElem?_append_left (show t < ps.length by omega)]
        · simp only [List.map_cons, List.map_nil, List.getD_eq_getElem?_getD]
          rw [List.getElem?_append_right (show ps.length ≤ ps.length - 1 + 1 by omega), List.getElem?_append_left (show ps.length - 1 < ps.length by omega)]
          simp [show ps.length - 1 + 1 - ps.length = 0 by omega]
      · rw [if_neg c] at h1'
        exfalso
        have := congrArg List.length h1'
        simp only [List.length_append, List.length_map, h1] at this
        simp at this
    · rw [if_neg q] at h1' ⊢
      by_cases c : bit words wd (placeB (bit words wd) k).2 (k + 1) = false ∧ (placeB (bit words wd) k).2 < k
      · rw [if_pos c] at h1'
        exfalso
        have := congrArg List.length h1'
        simp only [List.length_append, List.length_map, h1] at this
        simp at this
      · rw [if_neg c]; exact ih
theorem fB_ext {b b' : Nat → Nat → Bool} (e : ∀ h j, h + 1 < j → j ≤ 5 → b h j = b' h j) {j : Nat} (hj : j ≤ 5) : fB b j = fB b' j := by
  unfold fB natsOf
  refine List.filter_congr fun h hh => ?_
  have hl := List.mem_range.mp hh
  by_cases q : h + 1 = j
  · simp [q]
  · rw [e h j (by omega) hj]
theorem seenB_ext {b b' : Nat → Nat → Bool} (e : ∀ h j, h + 1 < j → j ≤ 5 → b h j = b' h j) (vals : List Nat) {j : Nat} (hj : j ≤ 5) : ∀ h seen, seenB b vals j h seen = seenB b' vals j h seen
  | 0, _ => rfl
  | h + 1, seen => by
    rw [seenB, seenB]
    by_cases q : h + 1 < j
    · rw [e h j q hj, seenB_ext e vals hj h]
    · rw [if_neg (fun z => q z.2), if_neg (fun z => q z.2), seenB_ext e vals hj h]
theorem valB_ext {b b' : Nat → Nat → Bool} (e : ∀ h j, h + 1 < j → j ≤ 5 → b h j = b' h j) : ∀ j, j ≤ 6 → valB b j = valB b' j
  | 0, _ => rfl
  | j + 1, hj => by rw [valB, valB, valB_ext e j (by omega), seenB_ext e _ (by omega)]
theorem placeB_ext {b b' : Nat → Nat → Bool} (e : ∀ h j, h + 1 < j → j ≤ 5 → b h j = b' h j) : ∀ k, k ≤ 5 → placeB b k = placeB b' k
  | 0, _ => rfl
  | k + 1, hk => by
    rw [placeB, placeB, placeB_ext e k (by omega)]
    by_cases q : (placeB b' k).2 < k
    · rw [e _ _ (by omega) hk]
    · rw [if_neg (fun z => q z.2), if_neg (fun z => q z.2)]
def maxL : List Nat → Nat
  | [] => 0
  | x :: r => max x (maxL r)
def PileOk (b : Nat → Nat → Bool) : Prop := (placeB b 5).1 = natsOf 6 (fun i => (valB b 6).getD i 0 == 0) ∧ maxL (valB b 6) = maxL ((List.range 6).map fun j => (fB b j).length) ∧
  ∀ j ∈ List.range 6, ((fB b j).map fun h => (valB b 6).getD h 0).Nodup ∧ (valB b 6).getD j 0 ∉ (fB b j).map (fun h => (valB b 6).getD h 0) ∧ ∀ x ∈ List.range ((valB b 6).getD j 0), x ∈ (fB b j).map (fun h => (valB b 6).getD h 0)
def mk10 (x02 x03 x13 x04 x14 x24 x05 x15 x25 x35 : Bool) (h j : Nat) : Bool :=
  match j, h with
  | 2, 0 => x02 | 3, 0 => x03 | 3, 1 => x13 | 4, 0 => x04 | 4, 1 => x14 | 4, 2 => x24 | 5, 0 => x05 | 5, 1 => x15 | 5, 2 => x25 | 5, 3 => x35 | _, _ => true
set_option synthInstance.maxHeartbeats 2000000 in
set_option synthInstance.maxSize 100000 in
theorem fin10 : ∀ x02 x03 x13 x04 x14 x24 x05 x15 x25 x35 : Bool, (x03 → x13) → (x04 → x14) → (x14 → x24) → (x05 → x15) → (x15 → x25) → (x25 → x35) → (x03 → x02) → (x04 → x03) → (x05 → x04) → (x14 → x13) → (x15 → x14) → (x25 → x24) →
    PileOk (mk10 x02 x03 x13 x04 x14 x24 x05 x15 x25 x35) := by unfold PileOk; decide +kernel
theorem pile_ok {words : List Str} {wd : Int} (hl : words.length = 5) : PileOk (bit words wd) := by
  have m1 : ∀ h j, h < j → j ≤ 5 → bit words wd h j = true → bit words wd (h + 1) j = true := fun h j a c => bit_mono1 a (by omega)
  have m2 : ∀ h j, h ≤ j → j < 5 → bit words wd h (j + 1) = true → bit words wd h j = true := fun h j a c => bit_mono2 a (by omega)
  have f := fin10 (bit words wd 0 2) (bit words wd 0 3) (bit words wd 1 3) (bit words wd 0 4) (bit words wd 1 4) (bit words wd 2 4) (bit words wd 0 5) (bit words wd 1 5) (bit words wd 2 5) (bit words wd 3 5)
    (m1 0 3 (by decide) (by decide)) (m1 0 4 (by decide) (by decide)) (m1 1 4 (by decide) (by decide)) (m1 0 5 (by decide) (by decide)) (m1 1 5 (by decide) (by decide)) (m1 2 5 (by decide) (by decide))
    (m2 0 2 (by decide) (by decide)) (m2 0 3 (by decide) (by decide)) (m2 0 4 (by decide) (by decide)) (m2 1 3 (by decide) (by decide)) (m2 1 4 (by decide) (by decide)) (m2 2 4 (by decide) (by decide))
  have e : ∀ h j, h + 1 < j → j ≤ 5 → bit words wd h j = mk10 (bit words wd 0 2) (bit words wd 0 3) (bit words wd 1 3) (bit words wd 0 4) (bit words wd 1 4) (bit words wd 2 4) (bit words wd 0 5) (bit words wd 1 5) (bit words wd 2 5) (bit words wd 3 5) h j := fun h j h1 h2 =>
    have key : ∀ p ∈ ([(0, 2), (0, 3), (1, 3), (0, 4), (1, 4), (2, 4), (0, 5), (1, 5), (2, 5), (3, 5)] : List (Nat × Nat)), bit words wd p.1 p.2 = mk10 (bit words wd 0 2) (bit words wd 0 3) (bit words wd 1 3) (bit words wd 0 4) (bit words wd 1 4) (bit words wd 2 4) (bit words wd 0 5) (bit words wd 1 5) (bit words wd 2 5) (bit words wd 3 5) p.1 p.2 := allC rfl (allC rfl (allC rfl (allC rfl (allC rfl (allC rfl (allC rfl (allC rfl (allC rfl (allC rfl (fun _ h => nomatch h))))))))))
    key (h, j) ((by decide : ∀ j h : Fin 6, h.1 + 1 < j.1 → (h.1, j.1) ∈ ([(0, 2), (0, 3), (1, 3), (0, 4), (1, 4), (2, 4), (0, 5), (1, 5), (2, 5), (3, 5)] : List (Nat × Nat))) ⟨j, Nat.lt_succ_of_le h2⟩ ⟨h, Nat.lt_trans (Nat.lt_of_succ_lt h1) (Nat.lt_succ_of_le h2)⟩ h1)
  unfold PileOk at *
  rw [valB_ext e 6 (by decide), placeB_ext e 5 (by decide)]
  refine ⟨f.1, ?_, fun j hj => ?_⟩
  · rw [f.2.1]
    refine congrArg maxL (List.map_congr_left fun j hj => ?_)
    have := List.mem_range.mp hj
    rw [fB_ext e (by omega)]
  · rw [fB_ext e (by have := List.mem_range.mp hj; omega)]
    exact f.2.2 j hj
section
variable {f0 f1 : Nat → List Nat}
theorem any_mem {l : List Nat} {p q : Nat → Bool} : (∀ x ∈ l, p x = q x) → l.any p = l.any q := by
  induction l with
  | nil => intro _; rfl
  | cons a r ih => intro h; rw [List.any_cons, List.any_cons, h a (.head _), ih fun x hx => h x (.tail _ hx)]
theorem rowN_get (prev : List (List Bool)) (i : Nat) : ∀ m j, j < m → (rowN f0 f1 prev i m).getD j false = cellL f0 f1 prev (rowN f0 f1 prev i j) i
  | 0, _, h => absurd h (Nat.not_lt_zero _)
  | m + 1, j, h => by
    rw [rowN]
    by_cases q : j < m
    · rw [List.getD_eq_getElem?_getD, List.getElem?_append_left (by rw [rowN_len]; exact q), ← List.getD_eq_getElem?_getD]
      exact rowN_get prev i m j q
    · have e : j = m := by omega
      subst e
      rw [List.getD_eq_getElem?_getD, List.getElem?_append_right (by rw [rowN_len]; exact Nat.le_refl _), rowN_len]; simp
theorem rowN_pre (prev : List (List Bool)) (i : Nat) {k : Nat} : ∀ m, k < m → ∀ j, j ≤ m → k < j → (rowN f0 f1 prev i j).getD k false = (rowN f0 f1 prev i m).getD k false := fun m hm j _ hk => by
  rw [rowN_get prev i j k hk, rowN_get prev i m k hm]
theorem lostN_get : ∀ n i, i < n → (lostN f0 f1 n).getD i [] = rowN f0 f1 (lostN f0 f1 i) i 6
  | 0, _, h => absurd h (Nat.not_lt_zero _)
  | n + 1, i, h => by
    rw [lostN]
    by_cases q : i < n
    · rw [List.getD_eq_getElem?_getD, List.getElem?_append_left (by rw [lostN_len]; exact q), ← List.getD_eq_getElem?_getD]
      exact lostN_get n i q
    · have e : i = n := by omega
      subst e
      rw [List.getD_eq_getElem?_getD, List.getElem?_append_right (by rw [lostN_len]; exact Nat.le_refl _), lostN_len]; simp
def lostAt (f0 f1 : Nat → List Nat) (i j : Nat) : Bool := ((lostN f0 f1 6).getD i []).getD j false
theorem lostAt_eq (h0 : ∀ i, ∀ h ∈ f0 i, h < i) (h1 : ∀ j, ∀ h ∈ f1 j, h < j) {i j : Nat} (hi : i < 6) (hj : j < 6) : lostAt f0 f1 i j = !((f0 i).any (fun h => lostAt f0 f1 h j) || (f1 j).any (fun h => lostAt f0 f1 i h)) := by
  have e0 : (f0 i).any (fun h => ((lostN f0 f1 i).getD h []).getD j false) = (f0 i).any (fun h => lostAt f0 f1 h j) := any_mem fun h hh => by
    have hlt := h0 i h hh
    unfold lostAt
    rw [lostN_get i h hlt, lostN_get 6 h (by omega)]
  have e1 : (f1 j).any (fun h => (rowN f0 f1 (lostN f0 f1 i) i j).getD h false) = (f1 j).any (fun h => lostAt f0 f1 i h) := any_mem fun h hh => by
    have hlt := h1 j h hh
    unfold lostAt
    rw [lostN_get 6 i hi, rowN_get _ i j h hlt, rowN_get _ i 6 h (by omega)]
  rw [← e0, ← e1]
  unfold lostAt
  rw [lostN_get 6 i hi, rowN_get _ i 6 j hj, cellL, rowN_len]
theorem lostAt_val {v0 v1 : Nat → Nat} (h0 : ∀ i, ∀ h ∈ f0 i, h < i) (h1 : ∀ j, ∀ h ∈ f1 j, h < j)
    (a0 : ∀ i, i < 6 → v0 i ∉ (f0 i).map v0) (b0 : ∀ i, i < 6 → ∀ x, x < v0 i → x ∈ (f0 i).map v0) (a1 : ∀ j, j < 6 → v1 j ∉ (f1 j).map v1) (b1 : ∀ j, j < 6 → ∀ x, x < v1 j → x ∈ (f1 j).map v1) :
    ∀ n i j, i + j = n → i < 6 → j < 6 → lostAt f0 f1 i j = (v0 i == v1 j) := by
  intro n
  induction n using Nat.strongRecOn with
  | _ n ih =>
    intro i j hn hi hj
    rw [lostAt_eq h0 h1 hi hj, Bool.eq_iff_iff]
    simp only [Bool.not_eq_true', Bool.or_eq_false_iff, List.any_eq_false, beq_iff_eq]
    constructor
    · rintro ⟨p, q⟩
      rcases Nat.lt_trichotomy (v0 i) (v1 j) with z | z | z
      · obtain ⟨h, hh, e⟩ := List.mem_map.mp (b1 j hj _ z)
        have hlt := h1 j h hh
        have := q h hh
        rw [ih (i + h) (by omega) i h rfl hi (by omega), e] at this
        simp at this
      · exact z
      · obtain ⟨h, hh, e⟩ := List.mem_map.mp (b0 i hi _ z)
        have hlt := h0 i h hh
        have := p h hh
        rw [ih (h + j) (by omega) h j rfl (by omega) hj, e] at this
        simp at this
    · intro e
      refine ⟨fun h hh => ?_, fun h hh => ?_⟩
      · have hlt := h0 i h hh
        rw [ih (h + j) (by omega) h j rfl (by omega) hj]
        intro z
        exact a0 i hi (List.mem_map.mpr ⟨h, hh, by rw [e]; simpa using z⟩)
      · have hlt := h1 j h hh
        rw [ih (i + h) (by omega) i h rfl hi (by omega)]
        intro z
        exact a1 j hj (List.mem_map.mpr ⟨h, hh, by rw [← e]; exact (by simpa using z : v0 i = v1 h).symm⟩)
end
end Mine
end

section
open PySem PySem.W PyProof.Rows PySem.Calls
set_option Elab.async false
set_option linter.unusedVariables false
set_option linter.unusedSimpArgs false
set_option maxRecDepth 100000
set_option maxHeartbeats 2000000
set_option pp.maxSteps 1200
set_option pp.deepTerms false
namespace Mine
theorem cellAt_bound (ns : List Int) (k : Nat) {b : Int} (h : 0 ≤ b ∧ b ≤ 1000) : 0 ≤ cellAt ns k b ∧ cellAt ns k b < 2000000 := by
  unfold cellAt
  split
  · have h1 := Int.fmod_nonneg_of_pos (ns.getD k 0) (b := 1000000) (by decide)
    have h2 := Int.fmod_lt_of_pos (ns.getD k 0) (b := 1000000) (by decide)
    omega
  · omega
theorem cells_facts (ns : List Int) : (cellsOf ns).length = 11 ∧ ∀ c ∈ cellsOf ns, 0 ≤ c ∧ c < 2000000 := by
  refine ⟨by simp [cellsOf, cellBase], fun c hc => ?_⟩
  simp only [cellsOf, cellBase, List.mapIdx_cons, List.mapIdx_nil, List.mem_cons, List.not_mem_nil, or_false] at hc
  rcases hc with rfl | rfl | rfl | rfl | rfl | rfl | rfl | rfl | rfl | rfl | rfl <;> exact cellAt_bound _ _ (by decide)
def due15 : List Str := names14 ++ [PySem.Str.ofString ""] ++ names14.map fun nm => PySem.Str.ofString "<" ++ nm ++ PySem.Str.ofString " call() failed>"
theorem due15_ok : ∀ x ∈ due15, x.length ≤ 100 ∧ PyData.strOk x = true := by decide +kernel
theorem told_due : ∀ nm ∈ names14, ∀ tail ∈ ([PySem.Str.ofString "", PySem.Str.ofString "\" x"] : List Str), nm.length ≤ 3 ∧
    (toldOf (PySem.Str.ofString "250 " ++ (PySem.Str.ofString "\"" ++ Txt.replace nm (PySem.Str.ofString "\"") (PySem.Str.ofString "\"\"") ++ tail)) nm = PySem.Str.ofString "<" ++ nm ++ PySem.Str.ofString " call() failed>" ∧ (PySem.Str.ofString "250 " ++ (PySem.Str.ofString "\"" ++ Txt.replace nm (PySem.Str.ofString "\"") (PySem.Str.ofString "\"\"") ++ tail)).length ≤ 20) ∧
    (toldOf (PySem.Str.ofString "257-" ++ (PySem.Str.ofString "\"" ++ Txt.replace nm (PySem.Str.ofString "\"") (PySem.Str.ofString "\"\"") ++ tail)) nm = PySem.Str.ofString "" ∧ (PySem.Str.ofString "257-" ++ (PySem.Str.ofString "\"" ++ Txt.replace nm (PySem.Str.ofString "\"") (PySem.Str.ofString "\"\"") ++ tail)).length ≤ 20) ∧
    (toldOf (PySem.Str.ofString "257 " ++ (PySem.Str.ofString "\"" ++ Txt.replace nm (PySem.Str.ofString "\"") (PySem.Str.ofString "\"\"") ++ tail)) nm = nm ∧ (PySem.Str.ofString "257 " ++ (PySem.Str.ofString "\"" ++ Txt.replace nm (PySem.Str.ofString "\"") (PySem.Str.ofString "\"\"") ++ tail)).length ≤ 20) := by decide +kernel
theorem reply_facts {nm r due : Str} (h : nm ∈ names14) (hr : ReplyOk nm r due) : toldOf r nm = due ∧ due ∈ due15 ∧ r.length ≤ 20 ∧ nm.length ≤ 3 := by
  obtain ⟨tail, ht, q⟩ := hr
  obtain ⟨h0, ⟨a1, a2⟩, ⟨b1, b2⟩, ⟨c1, c2⟩⟩ := told_due nm h tail ht
  rcases q with ⟨rfl, rfl⟩ | ⟨rfl, rfl⟩ | ⟨rfl, rfl⟩
  · exact ⟨a1, List.mem_append_right _ (List.mem_map.mpr ⟨nm, h, rfl⟩), a2, h0⟩
  · exact ⟨b1, List.mem_append_left _ (List.mem_append_right _ (.head _)), b2, h0⟩
  · exact ⟨c1, List.mem_append_left _ (List.mem_append_left _ h), c2, h0⟩
end Mine
end

section
open PySem PySem.W PyProof.Rows PySem.Calls
set_option Elab.async false
set_option linter.unusedVariables false
set_option linter.unusedSimpArgs false
set_option maxRecDepth 100000
set_option maxHeartbeats 2000000
set_option pp.maxSteps 1200
set_option pp.deepTerms false
namespace Mine
section
variable {prog : Program} {w : World} {A : Around} {h₀ : Heap} {L : Addr} {m : Str → Option Value} {env : Env} {elt : Expr} {x : Str} {scope : Scope} {cl : List (Str × Addr)} {s : Shared} {S : List (Addr × Obj) → Prop} {P : Nat → Value → Prop} {Fin : List Value → List (Addr × Obj) → Prop} {news : List (Addr × Obj)}
theorem comp_inv {n : Nat} (Inv : Nat → List Value → List (Addr × Obj) → Prop)
    (turn : ∀ i v I oI C oC D m₂ ys news h tk (E' : Value → Shared → Prop), i < n → P i v → Inv i ys news → LCg.NsObj oC m₂ → m₂ x = some v → Fr h₀ L h m → News h₀ L h ((I, oI) :: (C, oC) :: (D, LCg.lst ys) :: news) → LCg.Off3 I C D news → ((@Ne Nat I C) ∧ (@Ne Nat I D) ∧ (@Ne Nat C D)) →
      wpAny (model prog w) A (eval elt (compEnvC scope cl C env)) (LCg.CompEnd h₀ L m { s with heap := h, toks := tk } I oI C oC D (LCg.lst ys) S (fun y news' => Inv (i + 1) (ys ++ [y]) news')) E' { s with heap := h, toks := tk })
    (fin : ∀ ys news, Inv n ys news → Fin ys news) (h0 : Inv 0 [] news) : LCg.CompRest prog w A h₀ L m env elt x scope cl s S P Fin n 0 [] news := by
  have key : ∀ (j i : Nat) (ys : List Value) (news : List (Addr × Obj)), i + j = n → Inv i ys news → LCg.CompRest prog w A h₀ L m env elt x scope cl s S P Fin j i ys news := by
    intro j
    induction j with
    | zero => intro i ys news hi hy; exact LCg.CompRest.zero (fin ys news (by have e : i = n := by omega
                                                                              exact e ▸ hy))
    | succ j ih =>
      intro i ys news hi hy
      refine LCg.CompRest.succ ?_
      intro v I oI C oC D m₂ h tk E' hv hC hx F N off ne
      refine wpAny_mono (turn i v I oI C oC D m₂ ys news h tk E' (by omega) hv hy hC hx F N off ne) (fun y s₂ hq => ?_) fun _ _ e => e
      refine absG fun G99 k99 => ?_
      obtain ⟨h', tk', nw, e, F', N', off', hS, hE⟩ := hq
      refine k99.go ?_
      clear k99 G99
      exact ⟨h', tk', nw, e, F', N', off', hS, ih (i + 1) _ nw (by omega) hE⟩
  exact key n 0 [] news (by omega) h0
end
end Mine
end

section
open PySem PySem.W PyProof.Rows PySem.Calls
set_option Elab.async false
set_option linter.unusedVariables false
set_option linter.unusedSimpArgs false
set_option maxRecDepth 100000
set_option maxHeartbeats 2000000
set_option pp.maxSteps 1200
set_option pp.deepTerms false
namespace Mine
section
variable {prog : Program} {w : World} {A : Around} {s : Shared} {env : Env} {R : Result → Shared → Prop} {h₀ : Heap} {L : Addr}
theorem pyIter_tup_K {E : Value → Shared → Prop} {m : Str → Option Value} {news : List (Addr × Obj)} {l : Addr} {its : Array Value} {Q : Value → Shared → Prop} (F : Fr h₀ L s.heap m) (N : News h₀ L s.heap news) (hl : s.heap.IsTuple l its)
    (hq : ∀ I h, Fr h₀ L h m → News h₀ L h news → (∀ p ∈ news, p.1 ≠ I) → L ≠ I → h₀.get? I = none → l ≠ I → h.IsTupleIter I l 0 → Q (.ref I) { s with heap := h }) :
    wpAny (model prog w) A (pyIter (.ref l)) Q E s := by
  refine wpAny_pyIter_tuple hl ?_
  refine absG fun G99 k99 => ?_
  obtain ⟨F1, N1, a1, a2, a3, a4⟩ := new_K (o := { cls := .type "tuple_iterator", data := .fields #[.ref l, .int 0 0] }) F N rfl
  refine k99.go ?_
  clear k99 G99
  exact hq _ _ F1 N1 a1 a2 a3 (Nat.ne_of_lt (by obtain ⟨_, e, _⟩ := hl; exact Heap.lt_size e)) ⟨_, a4, rfl, rfl⟩
theorem for_KP {I ax : Addr} {its : Array Value} {lo : Obj} (hh : A.handled = none) (hne : ax ≠ I) (hlo : lo.cls = .type "tuple") (hld : ∃ n, lo.data = .seq its n) (J : Nat → (Str → Option Value) → List (Addr × Obj) → Array GenState → Prop) (hJ : ∀ i m news g, J i m news g → (ax, lo) ∈ news)
    {m₀ : Str → Option Value} {news₀ : List (Addr × Obj)} {target : Expr} {body orelse : List Stmt}
    (hLI : L ≠ I) (h0I : h₀.get? I = none) (st0 : s.heap.IsTupleIter I ax 0) (F₀ : Fr h₀ L s.heap m₀) (N₀ : News h₀ L s.heap news₀) (hn₀ : ∀ p ∈ news₀, p.1 ≠ I) (j0 : J 0 m₀ news₀ s.gens)
    (turn : ∀ i v m₁ news₁ h g tk o, i < its.size → its[i]? = some v → J i m₁ news₁ g → Fr h₀ L h m₁ → News h₀ L h ((I, o) :: news₁) → (∀ p ∈ news₁, p.1 ≠ I) → ∀ S : Shared → Prop, (∀ s₃, StepK h₀ L I o (J (i + 1)) s s₃ → S s₃) → ∀ E' : Value → Shared → Prop,
      wpAny (model prog w) A (assign target env v) (fun _ s₂ => wpAny (model prog w) A (execs body env) (fun f s₃ => match f with
        | .next | .cont => S s₃
        | .brk => R (.ok .next) s₃
        | .ret v => R (.ok (.ret v)) s₃) E' s₂) E' { s with heap := h, gens := g, toks := tk })
    (done : ∀ m₁ news₁ h g tk, J its.size m₁ news₁ g → Fr h₀ L h m₁ → News h₀ L h news₁ → wpAny (model prog w) A (execs orelse env) (fun f s₃ => R (.ok f) s₃) (notedBy (model prog w) A env fun e s' => R (.error e) s') { s with heap := h, gens := g, toks := tk })
    (ht : ∀ v, letOwnedTupleGo target (.ref I) v = pure () := by intro _; rfl) : codeAny (model prog w) A (.forLoop target (.ref I) body orelse env) R s := by
  have W : Walks prog w A I [I, ax] [I] its.size (fun i v => its[i]? = some v) (fun i h => h.IsTupleIter I ax i ∧ h.IsTuple ax its) := Walks.tuple hh I ax hne its
  have lst : ∀ {h : Heap}, h.get? ax = some lo → h.IsTuple ax its := fun {h} e => ⟨lo, e, hlo, hld⟩
  refine codeAny_forLoop (I := fun k s₁ => ∃ i h m news g tk, k = its.size - i ∧ i ≤ its.size ∧ s₁ = { s with heap := h, gens := g, toks := tk } ∧ h.IsTupleIter I ax i ∧ Fr h₀ L h m ∧ News h₀ L h news ∧ (∀ p ∈ news, p.1 ≠ I) ∧ J i m news g) ?_ (its.size - 0) ⟨0, s.heap, m₀, news₀, s.gens, s.toks, rfl, Nat.zero_le _, rfl, st0, F₀, N₀, hn₀, j0⟩ ht
  rintro k s₁ ⟨i, h, m₁, news₁, g, tk, rfl, hi, rfl, st, F, N, hn, hJi⟩
  have hax : h.get? ax = some lo := (N _ (hJ _ _ _ _ hJi)).1
  rcases Nat.lt_or_eq_of_le hi with hlt | rfl
  · refine W.item i _ _ _ hlt ⟨st, lst hax⟩ fun v h' tk' hP st' hk => ?_
    have hk' : ∀ b o, b ≠ I → h.get? b = some o → h'.get? b = some o := fun b o hb e => hk b o (fun q => hb (List.mem_singleton.mp q)) e
    refine absG fun G99 k99 => ?_
    obtain ⟨o, ho, hrec⟩ := st'.1
    refine k99.go ?_
    clear k99 G99
    have F' := fr_mod F hk' hLI h0I
    have hax' : h'.get? ax = some lo := hk' _ _ hne hax
    have N' : News h₀ L h' ((I, o) :: news₁) := fun p hp => by
      rcases List.mem_cons.mp hp with rfl | hp
      · exact ⟨ho, fun e => hLI e.symm, h0I⟩
      · exact ⟨hk' _ _ (hn p hp) (N p hp).1, (N p hp).2⟩
    refine wpAny_mono (turn i v m₁ news₁ h' g tk' o hlt hP hJi F' N' hn _ (fun _ z => z) _) (fun _ s₂ h₂ => wpAny_mono h₂ (fun f s₃ h₃ => ?_) fun _ _ e => e) fun _ _ e => e
    have fin : StepK h₀ L I o (J (i + 1)) s s₃ → ∃ k', k' < its.size - i ∧ ∃ i h m news g tk, k' = its.size - i ∧ i ≤ its.size ∧ s₃ = { s with heap := h, gens := g, toks := tk } ∧ h.IsTupleIter I ax i ∧ Fr h₀ L h m ∧ News h₀ L h news ∧ (∀ p ∈ news, p.1 ≠ I) ∧ J i m news g := by
      rintro ⟨h3, m3, news3, g3, tk3, rfl, F3, N3, hn3, J3⟩
      exact ⟨its.size - (i + 1), by omega, i + 1, h3, m3, news3, g3, tk3, rfl, hlt, rfl, ⟨o, (N3 _ (.head _)).1, hrec⟩, F3, fun p hp => N3 p (.tail _ hp), hn3, J3⟩
    cases f with
    | next => exact fin h₃
    | cont => exact fin h₃
    | brk => exact h₃
    | ret v => exact h₃
  · refine W.done _ _ _ ⟨st, lst hax⟩ fun h' tk' hk => ?_
    have hk' : ∀ b o, b ≠ I → h.get? b = some o → h'.get? b = some o := fun b o hb e => hk b o (fun q => hb (List.mem_singleton.mp q)) e
    exact done m₁ news₁ h' g tk' hJi (fr_mod F hk' hLI h0I) fun p hp => ⟨hk' _ _ (hn p hp) (N p hp).1, (N p hp).2⟩
end
end Mine
end

section
open PySem PySem.W PyProof.Rows PySem.Calls
set_option Elab.async false
set_option linter.unusedVariables false
set_option linter.unusedSimpArgs false
set_option maxRecDepth 100000
set_option maxHeartbeats 2000000
set_option pp.maxSteps 1200
set_option pp.deepTerms false
namespace Mine
def Off (cs : List Addr) (ext : List (Addr × Obj)) : Prop := ∀ p ∈ ext, ∀ c ∈ cs, p.1 ≠ c
theorem Off.ne {cs : List Addr} {ext : List (Addr × Obj)} {c : Addr} (h : Off cs ext) (hc : c ∈ cs) : ∀ p ∈ ext, p.1 ≠ c := fun p hp => h p hp c hc
theorem Off.cons {cs : List Addr} {ext : List (Addr × Obj)} {q : Addr × Obj} (h : Off cs ext) (hq : ∀ c ∈ cs, q.1 ≠ c) : Off cs (q :: ext) := fun p hp c hc => by
  rcases List.mem_cons.mp hp with rfl | hp
  · exact hq c hc
  · exact h p hp c hc
theorem strsAre_snoc {vs : List Value} {ss : List Str} (h : StrsAre vs ss) (x : Str) (t : Tok) : StrsAre (vs ++ [.str x t]) (ss ++ [x]) := by
  induction h with
  | nil => exact .cons x t .nil
  | cons m t _ ih => exact .cons m t ih
def StrRows (led : List (Addr × Obj)) (as : List Addr) (wss : List (List Str)) : Prop := as.length = wss.length ∧ ∀ i a, as[i]? = some a → ∃ vs n, (a, listOf (List.toArray vs) n) ∈ led ∧ StrsAre vs (wss.getD i [])
theorem StrRows.up {a b : List (Addr × Obj)} {as : List Addr} {wss : List (List Str)} (h : StrRows a as wss) (k : ∀ p ∈ a, p ∈ b) : StrRows b as wss := ⟨h.1, fun i x e => by
  obtain ⟨vs, n, h1, h2⟩ := h.2 i x e
  exact ⟨vs, n, k _ h1, h2⟩⟩
theorem strRows_snoc {led : List (Addr × Obj)} {as : List Addr} {wss : List (List Str)} {D : Addr} {vs : List Value} {n : Nat} {ws : List Str} (h : StrRows led as wss) (hD : (D, listOf (List.toArray vs) n) ∈ led) (hs : StrsAre vs ws) : StrRows led (as ++ [D]) (wss ++ [ws]) := ⟨by simp [h.1], fun i a e => by
  rcases Nat.lt_trichotomy i as.length with h1 | h1 | h1
  · rw [List.getElem?_append_left h1] at e
    obtain ⟨vs, n, h2, h3⟩ := h.2 i a e
    refine ⟨vs, n, h2, ?_⟩
    rw [List.getD_eq_getElem?_getD, List.getElem?_append_left (by rw [← h.1]; exact h1), ← List.getD_eq_getElem?_getD]
    exact h3
  · subst h1
    rw [List.getElem?_append_right (Nat.le_refl _)] at e
    simp at e
    subst e
    refine ⟨_, n, hD, ?_⟩
    rw [List.getD_eq_getElem?_getD, List.getElem?_append_right (by rw [h.1]; exact Nat.le_refl _), h.1]
    simpa using hs
  · rw [List.getElem?_eq_none (by simp; omega)] at e; cases e⟩
theorem RowsAt.up {a b : List (Addr × Obj)} {as : List Addr} {f : Nat → List Int} (h : RowsAt a as f) (k : ∀ p ∈ a, p ∈ b) : RowsAt b as f := fun i x e => by
  obtain ⟨vs, n, h1, h2⟩ := h i x e
  exact ⟨vs, n, k _ h1, h2⟩
def WaysAt (led : List (Addr × Obj)) (was : List Addr) (wss : List (List Str)) (wd : Int) : Prop := ∀ i a, was[i]? = some a → ∃ refs n, (a, listOf (List.toArray (List.map Value.ref refs)) n) ∈ led ∧ refs.length = 6 ∧ RowsAt led refs (wayOf (wss.getD i []) wd)
theorem WaysAt.up {a b : List (Addr × Obj)} {was : List Addr} {wss : List (List Str)} {wd : Int} (h : WaysAt a was wss wd) (k : ∀ p ∈ a, p ∈ b) : WaysAt b was wss wd := fun i x e => by
  obtain ⟨refs, n, h1, h2, h3⟩ := h i x e
  exact ⟨refs, n, k _ h1, h2, h3.up k⟩
theorem waysAt_snoc {led : List (Addr × Obj)} {was : List Addr} {wss : List (List Str)} {wd : Int} {D : Addr} {refs : List Addr} {n : Nat} (h : WaysAt led was wss wd) (hD : (D, listOf (List.toArray (List.map Value.ref refs)) n) ∈ led) (hl : refs.length = 6) (hr : RowsAt led refs (wayOf (wss.getD was.length []) wd)) : WaysAt led (was ++ [D]) wss wd := fun i a e => by
  rcases Nat.lt_trichotomy i was.length with h1 | h1 | h1
  · rw [List.getElem?_append_left h1] at e
    exact h i a e
  · subst h1
    rw [List.getElem?_append_right (Nat.le_refl _)] at e
    simp at e
    subst e
    exact ⟨refs, n, hD, hl, hr⟩
  · rw [List.getElem?_eq_none (by simp; omega)] at e; cases e
theorem off3_of {I C D : Addr} {news : List (Addr × Obj)} (h : ∀ p ∈ news, p.1 ≠ I ∧ p.1 ≠ C ∧ p.1 ≠ D) : LCg.Off3 I C D news := LCg.Off3.of h
end Mine
end

section
open PySem PySem.W PyProof.Rows PySem.Calls
set_option Elab.async false
set_option linter.unusedVariables false
set_option linter.unusedSimpArgs false
set_option maxRecDepth 100000
set_option maxHeartbeats 2000000
set_option pp.maxSteps 1200
set_option pp.deepTerms false
namespace Mine
def wayN (words : List Str) (wd : Int) (j : Nat) : List Nat := natsOf j (wayOk words wd j)
theorem natsOf_lt {n : Nat} {keep : Nat → Bool} : ∀ h ∈ natsOf n keep, h < n := fun h hh => List.mem_range.mp (List.mem_filter.mp hh).1
theorem natsOf_len {n : Nat} {keep : Nat → Bool} : (natsOf n keep).length ≤ n := by
  have h := List.length_filter_le keep (List.range n)
  rw [List.length_range] at h
  exact h
theorem natsOf_congr {n : Nat} {p q : Nat → Bool} (h : ∀ i, i < n → p i = q i) : natsOf n p = natsOf n q := List.filter_congr fun i hi => h i (List.mem_range.mp hi)
theorem wayN_fB {words : List Str} {wd : Int} (hl : words.length = 5) {j : Nat} (hj : j ≤ 5) : wayN words wd j = fB (bit words wd) j := natsOf_congr fun _ hh => wayOk_bit hh (by omega)
def valAt (words : List Str) (wd : Int) (i : Nat) : Nat := (valN words wd 6).getD i 0
theorem valAt_le {words : List Str} {wd : Int} {i : Nat} (hi : i < 6) : valAt words wd i ≤ i := valN_le words wd 6 (Nat.le_refl _) i hi
def aloneN (words : List Str) (wd : Int) : List Nat := natsOf 6 fun i => valAt words wd i == 0
theorem pile_facts {words : List Str} {wd : Int} (hl : words.length = 5) : (tAt wd words 5).places = (aloneN words wd).map (fun (x : Nat) => (x : Int)) ∧ (tAt wd words 5).lines = rowsB words (aloneN words wd) ∧
    maxL (valN words wd 6) = maxL ((List.range 6).map fun j => (wayN words wd j).length) ∧ ∀ j, j < 6 → ((wayN words wd j).map (valAt words wd)).Nodup ∧ valAt words wd j ∉ (wayN words wd j).map (valAt words wd) ∧ ∀ x, x < valAt words wd j → x ∈ (wayN words wd j).map (valAt words wd) := by
  obtain ⟨p1, p2, p3⟩ := pile_ok (words := words) (wd := wd) hl
  have ev := val_eq (words := words) (wd := wd) 6 (by omega)
  rw [← ev] at p1 p2 p3
  have ea : aloneN words wd = (placeB (bit words wd) 5).1 := p1.symm
  refine ⟨?_, ?_, ?_, fun j hj => ?_⟩
  · rw [ea]; exact (place_eq 5 (by omega)).1
  · rw [ea]; exact lines_eq 5 (by omega)
  · rw [p2]
    refine congrArg maxL (List.map_congr_left fun j hj => ?_)
    have := List.mem_range.mp hj
    rw [wayN_fB hl (by omega)]
  · obtain ⟨q1, q2, q3⟩ := p3 j (List.mem_range.mpr hj)
    rw [wayN_fB hl (by omega)]
    exact ⟨q1, q2, fun x hx => q3 x (List.mem_range.mpr hx)⟩
theorem lost_val {w0 w1 : List Str} {wd : Int} (h0 : w0.length = 5) (h1 : w1.length = 5) {i j : Nat} (hi : i < 6) (hj : j < 6) : lostAt (wayN w0 wd) (wayN w1 wd) i j = (valAt w0 wd i == valAt w1 wd j) := by
  have a := fun i hi => (pile_facts (wd := wd) h0).2.2.2 i hi
  have b := fun i hi => (pile_facts (wd := wd) h1).2.2.2 i hi
  exact lostAt_val (fun _ => natsOf_lt) (fun _ => natsOf_lt) (fun i hi => (a i hi).2.1) (fun i hi => (a i hi).2.2) (fun i hi => (b i hi).2.1) (fun i hi => (b i hi).2.2) _ i j rfl hi hj
theorem valAt_zero {words : List Str} {wd : Int} : valAt words wd 0 = 0 := by have := valAt_le (words := words) (wd := wd) (i := 0) (by decide); omega
theorem alone0 {w0 w1 : List Str} {wd : Int} (h0 : w0.length = 5) (h1 : w1.length = 5) : natsOf 6 (fun i => lostAt (wayN w0 wd) (wayN w1 wd) i 0) = aloneN w0 wd := natsOf_congr fun i hi => by
  rw [lost_val h0 h1 hi (by decide), valAt_zero]
theorem alone1 {w0 w1 : List Str} {wd : Int} (h0 : w0.length = 5) (h1 : w1.length = 5) : natsOf 6 (fun j => lostAt (wayN w0 wd) (wayN w1 wd) 0 j) = aloneN w1 wd := natsOf_congr fun j hj => by
  rw [lost_val h0 h1 (by decide) hj, valAt_zero]
  exact Bool.eq_iff_iff.mpr (by simp only [beq_iff_eq]; exact eq_comm)
theorem getD_map {α β : Type} (f : α → β) (a : α) (b : β) (l : List α) (i : Nat) (h : i < l.length) : (l.map f).getD i b = f (l.getD i a) := by
  simp [List.getD_eq_getElem?_getD, h]
theorem list6 {α : Type} (l : List α) (d : α) (hl : l.length = 6) : l = (List.range 6).map fun i => l.getD i d := by
  refine List.ext_getElem (by simp [hl]) fun i h1 h2 => ?_
  simp [List.getD_eq_getElem?_getD, h1]
theorem lost_table {w0 w1 : List Str} {wd : Int} (h0 : w0.length = 5) (h1 : w1.length = 5) : lostN (wayN w0 wd) (wayN w1 wd) 6 = (valN w0 wd 6).map fun a => (valN w1 wd 6).map fun b => a == b := by
  rw [list6 (lostN (wayN w0 wd) (wayN w1 wd) 6) [] (lostN_len _ _ _), list6 (valN w0 wd 6) 0 (valN_len _ _ _), List.map_map]
  refine List.map_congr_left fun i hi => ?_
  have hi6 := List.mem_range.mp hi
  rw [list6 ((lostN (wayN w0 wd) (wayN w1 wd) 6).getD i []) false (lostN_row _ _ 6 _ (by
    rw [List.getD_eq_getElem?_getD, List.getElem?_eq_getElem (by rw [lostN_len]; exact hi6)]; exact List.getElem_mem _))]
  show _ = (valN w1 wd 6).map _
  rw [list6 (valN w1 wd 6) 0 (valN_len _ _ _), List.map_map]
  refine List.map_congr_left fun j hj => ?_
  exact lost_val h0 h1 hi6 (List.mem_range.mp hj)
theorem max_eq {l : List Nat} {M : Int} (hm : M ∈ l.map (fun (x : Nat) => (x : Int))) (hb : ∀ a ∈ l.map (fun (x : Nat) => (x : Int)), a ≤ M) : M = (maxL l : Nat) := by
  obtain ⟨n, hn, rfl⟩ := List.mem_map.mp hm
  have h1 : ∀ {l : List Nat} {n : Nat}, n ∈ l → n ≤ maxL l := by
    intro l
    induction l with
    | nil => intro n h; cases h
    | cons a r ih =>
      intro n h
      rw [maxL]
      rcases List.mem_cons.mp h with rfl | h
      · exact Nat.le_max_left _ _
      · exact Nat.le_trans (ih h) (Nat.le_max_right _ _)
  have h2 : ∀ {l : List Nat} {n : Nat}, (∀ a ∈ l, a ≤ n) → maxL l ≤ n := by
    intro l
    induction l with
    | nil => intro n _; exact Nat.zero_le _
    | cons a r ih =>
      intro n h
      rw [maxL]
      exact Nat.max_le.mpr ⟨h a (.head _), ih fun x hx => h x (.tail _ hx)⟩
  have h3 : maxL l ≤ n := h2 fun a ha => by have := hb a (List.mem_map.mpr ⟨a, ha, rfl⟩); omega
  have h4 := h1 hn
  show (n : Int) = _
  congr 1
  omega
theorem firstMet_nodup {ns : List Int} (h : ns.Nodup) : ∀ i, i ≤ ns.length → firstMet (fun i => ns.getD i 0) i = ns.take i
  | 0, _ => rfl
  | i + 1, hi => by
    rw [firstMet_succ, firstMet_nodup h i (by omega), List.take_succ_eq_append_getElem (by omega)]
    have e : ns.getD i 0 = ns[i] := by simp [List.getD_eq_getElem?_getD, show i < ns.length by omega]
    rw [e]
    unfold step_dedup
    rw [if_neg]
    intro q
    have q' : ns[i] ∈ ns.take i := by simpa using q
    obtain ⟨j, hj, e2⟩ := List.getElem_of_mem q'
    rw [List.getElem_take] at e2
    have hj' : j < i := by rw [List.length_take] at hj; omega
    exact List.pairwise_iff_getElem.mp h j i (by omega) (by omega) hj' e2
theorem nodup_int {l : List Nat} (h : l.Nodup) : (l.map fun (x : Nat) => (x : Int)).Nodup := by
  unfold List.Nodup at *
  rw [List.pairwise_map]
  exact h.imp fun q e => q (by omega)
theorem xor_not : ∀ a b : Fin 6, (!(Builtin.bitXor ((a.val : Nat) : Int) ((b.val : Nat) : Int) != 0)) = (a.val == b.val) ∧ Builtin.bitXor ((a.val : Nat) : Int) ((b.val : Nat) : Int) < 1000 := by decide +kernel
end Mine
end

section
open PySem PySem.W PyProof.Rows PySem.Calls
set_option Elab.async false
set_option linter.unusedVariables false
set_option linter.unusedSimpArgs false
set_option maxRecDepth 100000
set_option maxHeartbeats 2000000
set_option pp.maxSteps 1200
set_option pp.deepTerms false
namespace Mine
theorem idx_last (n : Nat) : (0 ≤ -1 + ((n : Int) + 1) ∧ -1 + ((n : Int) + 1) < (n : Int) + 1) ∧ (-1 + ((n : Int) + 1)).toNat = n := by
  have e : -1 + ((n : Int) + 1) = n := by rw [Int.add_comm, Int.add_assoc, show (1 : Int) + -1 = 0 from rfl, Int.add_zero]
  rw [e]; exact ⟨⟨Int.natCast_nonneg _, Int.lt_succ _⟩, Int.toNat_natCast n⟩
theorem five_of {b : Int} (h : 1 ≤ b ∧ b ≤ 6) : min (b + 5).toNat 11 - b.toNat = 5 := by
  obtain ⟨k, rfl⟩ := Int.eq_ofNat_of_zero_le (Int.le_trans (by decide) h.1)
  show min (k + 5) 11 - k = 5
  rw [Nat.min_eq_left (Nat.add_le_add_right (Int.ofNat_le.mp h.2) 5), Nat.add_sub_cancel_left]
theorem post3 {M : Model} {A : Around} {cd : Code} {s s₁ : Shared} {cw : ClaimW} {cl : Str → Option Addr} {mean : ExcName → Option Value} {args : List WData} {tabs : List (Addr × Addr)} (hT : TabsAt tabs s₁.heap) (hr : ∀ x, cw.raises args x = false) (hp : cw.post args (.bool true) args = true)
    (h : codeAny M A cd (fun r s' => r = .ok (.ret (.bool true)) ∧ (∀ b o, (ghostOf s₁.heap tabs).get? b = some o → s'.heap.get? b = some o) ∧ s'.os = s₁.os ∧ AllBare s'.gens ∧ GrownAll tabs s'.heap) s) : codeAny M A cd (GoodWG cw cl mean args s₁) s :=
  codeAny_mono h fun r s' ⟨e, hk, hos, hg, hgr⟩ => by
    refine absG fun G99 k99 => ?_
    subst e
    refine k99.go ?_
    clear k99 G99
    refine ⟨.inl ⟨.bool true, .bool true, [], rfl, hr, .bool _, hp, fun _ => ⟨.nil, fun _ h => nomatch h⟩⟩, ⟨fun b o e => ?_, fun b o e => ?_⟩, hos, hg⟩
    · by_cases hb : b ∈ tabs.map (·.2)
      · refine absG fun G99 k99 => ?_
        obtain ⟨q, hq, rfl⟩ := List.mem_map.mp hb
        refine k99.go ?_
        clear k99 G99
        have e2 := (hT q hq).2
        rw [e] at e2
        cases Option.some.inj e2
        refine absG fun G99 k99 => ?_
        obtain ⟨ps, hP⟩ := hgr.get q hq
        refine k99.go ?_
        clear k99 G99
        exact .inr (.inl ⟨((hT q hq).1.tab (hT q hq).2).isCodeTable, rfl, #[], ps, rfl, by rw [Array.empty_append]; exact hP⟩)
      · exact .inl (hk b o (ghost_ne e hb))
    · by_cases hb : b ∈ tabs.map (·.2)
      · refine absG fun G99 k99 => ?_
        obtain ⟨q, hq, rfl⟩ := List.mem_map.mp hb
        obtain ⟨ps, hP⟩ := hgr.get q hq
        refine k99.go ?_
        clear k99 G99
        exact ⟨_, hP⟩
      · exact ⟨o, hk b o (ghost_ne e hb)⟩
noncomputable def lawFrom (n : Nat) : List Stmt := lawDef.body.drop n
noncomputable def lawScope : Scope := lawDef.scope
theorem Off.app {cs : List Addr} {a b : List (Addr × Obj)} (h : Off cs a) (k : Off cs b) : Off cs (a ++ b) := fun p hp c hc => by
  rcases List.mem_append.mp hp with hp | hp
  · exact h p hp c hc
  · exact k p hp c hc
theorem Off.of {base fr : List (Addr × Obj)} (own : List (Addr × Obj)) (h : ∀ p ∈ fr, ∀ x ∈ base, x.1 ≠ p.1) (k : ∀ x ∈ own, x ∈ base) : Off (own.map (·.1)) fr := fun p hp c hc e => by
  obtain ⟨x, hx, rfl⟩ := List.mem_map.mp hc
  exact h p hp x (k x hx) e.symm
theorem Off.one {q : Addr × Obj} {own ext : List (Addr × Obj)} (h : ∀ x ∈ own, x.1 ≠ q.1) (k : Off (own.map (·.1)) ext) : Off (own.map (·.1)) (q :: ext) := k.cons fun c hc e => by
  obtain ⟨x, hx, rfl⟩ := List.mem_map.mp hc
  exact h x hx e.symm
theorem Off.sub {cs ds : List Addr} {ext : List (Addr × Obj)} (h : Off cs ext) (k : ∀ c ∈ ds, c ∈ cs) : Off ds ext := fun p hp c hc => h p hp c (k c hc)
theorem BoolRows.up {a b : List (Addr × Obj)} {rs : List Addr} {ll : List (List Bool)} (h : BoolRows a rs ll) (k : ∀ p ∈ a, p ∈ b) : BoolRows b rs ll := ⟨h.1, fun i x e => by
  obtain ⟨vs, n, h1, h2⟩ := h.2 i x e
  exact ⟨vs, n, k _ h1, h2⟩⟩
def aloneI (wss : List (List Str)) (wd : Int) (i : Nat) : List Int := (aloneN (wss.getD i []) wd).map fun (x : Nat) => (x : Int)
def lostT (wss : List (List Str)) (wd : Int) : List (List Bool) := lostN (wayN (wss.getD 0 []) wd) (wayN (wss.getD 1 []) wd) 6
structure Sta (led : List (Addr × Obj)) (pl W0 al lv : Addr) (as was als rs : List Addr) (wss : List (List Str)) (wd : Int) : Prop where
  hp : ∃ n, (pl, listOf (as.map Value.ref).toArray n) ∈ led
  hw : ∃ n, (W0, listOf (was.map Value.ref).toArray n) ∈ led
  ha : ∃ n, (al, listOf (als.map Value.ref).toArray n) ∈ led
  hl : ∃ n, (lv, listOf (rs.map Value.ref).toArray n) ∈ led
  lp : as.length = 2
  lw : was.length = 2
  la : als.length = 2
  sp : StrRows led as wss
  sw : WaysAt led was wss wd
  sa : RowsAt led als (aloneI wss wd)
  sl : BoolRows led rs (lostT wss wd)
  ok : ∀ ws ∈ wss, ws.length = 5 ∧ ∀ x ∈ ws, x ∈ due15
theorem Sta.up {a b : List (Addr × Obj)} {pl W0 al lv : Addr} {as was als rs : List Addr} {wss : List (List Str)} {wd : Int} (h : Sta a pl W0 al lv as was als rs wss wd) (k : ∀ p ∈ a, p ∈ b) : Sta b pl W0 al lv as was als rs wss wd :=
  ⟨h.hp.imp fun _ => k _, h.hw.imp fun _ => k _, h.ha.imp fun _ => k _, h.hl.imp fun _ => k _, h.lp, h.lw, h.la, h.sp.up k, h.sw.up k, h.sa.up k, h.sl.up k, h.ok⟩
noncomputable def turnFrom (n : Nat) : List Stmt := match lawFrom 8 with
  | .For _ _ body _ _ :: _ => body.drop n
  | _ => []
end Mine
end

theorem Mine.rs15 {M : Model} {A : Around} {Q : Nat → Shared → Prop} {E : Value → Shared → Prop} {s : Shared} (h : wpAny M A (pure 1) Q E s) : wpAny M A (pure 1) Q E s := by first | (walk1; fail) | exact h
section
local macro_rules | `(tactic| walk_at $s) => if s.getString ∈ ["CompRestT", "call ref", "pyIter ref"] then `(tactic| refine Mine.stop_here ?_) else if s.getString ∈ ["subscriptTail", "subscriptTail Name Name ref int", "subscriptTail Name Constant ref int", "subscriptTail Subscript Name ref int", "subscriptTail Subscript Constant ref int", "subscriptTail Subscript Name Constant ref int", "subscriptTail Subscript Name Name ref int"] then `(tactic| walk_at "own item") else Lean.Macro.throwUnsupported
theorem Mine.rs16 {M : Model} {A : Around} {Q : Nat → Shared → Prop} {E : Value → Shared → Prop} {s : Shared} (h : wpAny M A (pure 1) Q E s) : wpAny M A (pure 1) Q E s := by first | (walk1; fail) | exact h
section
open PySem PySem.W PyProof.Rows PySem.Calls
set_option Elab.async false
set_option linter.unusedVariables false
set_option linter.unusedSimpArgs false
set_option maxRecDepth 100000
set_option maxHeartbeats 2000000
set_option pp.maxSteps 1200
set_option pp.deepTerms false
namespace Mine
set_option maxHeartbeats 6000000
local macro_rules | `(tactic| walk_at $s) => if s.getString ∈ ["execs cons For nil", "exec For", "CompSrc", "call builtin:max"] then `(tactic| refine stop_here ?_) else Lean.Macro.throwUnsupported
theorem ints_of {f : Nat → Int} : ∀ (ys : List Value) (l : List Nat), ys.length = l.length → (∀ (i : Nat) (y : Value), ys[i]? = some y → ∃ t, y = Value.int (f (l.getD i 0)) t) → IntsAre ys (l.map f)
  | [], [], _, _ => .nil
  | y :: ys, x :: l, h, hy => by
    obtain ⟨t, rfl⟩ := hy 0 y rfl
    exact .cons _ t (ints_of ys l (by simpa using h) fun i z hz => by simpa using hy (i + 1) z (by simpa using hz))
theorem max_ok {w : World} {mean : ExcName → Option Value} {mg mb : Str → Option Value} : ∀ (g0 : Heap) (L0 fa : Addr) (cd : Value) (s : Shared) (m : Str → Option Value) (Q : Flow → Shared → Prop) (E : Value → Shared → Prop) (pl W0 al lv vl : Addr) (as was als rs : List Addr) (wss : List (List Str)) (wd : Int) (tw tk : Tok) (k : Nat) (ow oL oV oK : Obj) (p1 p2 : Array Value) (vals : List Value) (nv : Nat) (ext : List (Addr × Obj)) (r : Addr) (vs : List Value) (n : Nat) (N : News g0 L0 s.heap ((vl, listOf vals.toArray nv) :: (L0 + 1 + 1 + 1 + 1, oK) :: (L0 + 1 + 1 + 1, oV) :: (L0 + 1 + 1, oL) :: (L0 + 1, ow) :: (148, tabObj p1) :: (155, tabObj p2) :: ext)) (B0 : Below callerA g0 [] g0) (X0 : (Mine.top.heap_1 w.params).In g0) (T0 : Top topProg (looseW Mine.top.view_1 [Str.ofString "_safe_string", Str.ofString "_Accumulator"] ++ List.map (fun x => x.name) (recsOf Mine.top.view_1) ++ List.map (fun x => x.fst) (litsOf Mine.top.view_1) ++ List.map (fun x => x.name) (clssOf Mine.top.view_1 (looseW Mine.top.view_1 [Str.ofString "_safe_string", Str.ofString "_Accumulator"]))) mean mg mb g0) (F : Fr g0 L0 s.heap m) (hm1 : m "piles" = some (.ref pl)) (hm2 : m "ways" = some (.ref W0)) (hm3 : m "alone" = some (.ref al)) (dw : ow.data = .cell (some (.int wd tw))) (dL : oL.data = .cell (some (.ref lv))) (dV : oV.data = .cell (some (.ref vl))) (dK : oK.data = .cell (some (.int (k : Nat) tk))) (hwd : 0 ≤ wd ∧ wd ≤ 9) (hk2 : k < 2) (hS : Sta ext pl W0 al lv as was als rs wss wd) (hO : Off [vl, L0 + 1 + 1 + 1 + 1, L0 + 1 + 1 + 1, L0 + 1 + 1, L0 + 1, 148, 155] ext) (hlo : (148 : Nat) < L0 ∧ (155 : Nat) < L0 ∧ @LT.lt Nat _ (L0 + 1 + 1 + 1 + 1) vl) (hvk : vals[k]? = some (.ref r)) (hr : (r, listOf vs.toArray n) ∈ ext) (hI : IntsAre vs ((valN (wss.getD k []) wd 6).map fun (x : Nat) => (x : Int)))
    (hret : ∀ h' tk' m', Fr g0 L0 h' m' → News g0 L0 h' ((vl, listOf vals.toArray nv) :: (L0 + 1 + 1 + 1 + 1, oK) :: (L0 + 1 + 1 + 1, oV) :: (L0 + 1 + 1, oL) :: (L0 + 1, ow) :: (148, tabObj p1) :: (155, tabObj p2) :: ext) → m' "piles" = some (.ref pl) → m' "ways" = some (.ref W0) → m' "alone" = some (.ref al) →
      wpAny (model PySem.Challenge.rw_wu0081_01.row.prog w) (callerA.deeper (envOfC (Str.ofString "law") lawScope L0 fa cd)) (execs (turnFrom 5) (envOfC (Str.ofString "law") lawScope L0 fa cd)) Q E { s with heap := h', toks := tk' }),
    wpAny (model PySem.Challenge.rw_wu0081_01.row.prog w) (callerA.deeper (envOfC (Str.ofString "law") lawScope L0 fa cd)) (execs (turnFrom 4) (envOfC (Str.ofString "law") lawScope L0 fa cd)) Q E s := by
  k_fill
  intro g0 L0 fa cd s m Q E pl W0 al lv vl as was als rs wss wd tw tk k ow oL oV oK p1 p2 vals nv ext r vs n N B0 X0 T0 F hm1 hm2 hm3 dw dL dV dK hwd hk2 hS hO hlo hvk hr hI hret
  dsimp only [turnFrom, lawFrom, lawScope, lawDef, lawS, List.drop]
  rw [known3w hm1 hm2 hm3] at F
  have hvx : vals.toArray[((k : Nat) : Int).toNat]? = some (.ref r) := by simpa using hvk
  refine absG fun G99 k99 => ?_
  obtain ⟨nw, hwm⟩ := hS.hw
  obtain ⟨Wk, hWk⟩ : ∃ Wk, was[k]? = some Wk := ⟨_, List.getElem?_eq_getElem (by rw [hS.lw]; exact hk2)⟩
  obtain ⟨refs, nr, hrm, hrl, hRA⟩ := hS.sw k Wk hWk
  have hwx : (was.map Value.ref).toArray[((k : Nat) : Int).toNat]? = some (.ref Wk) := by simp [hWk]
  have hwl : wss.length = 2 := hS.sp.1.symm.trans hS.lp
  obtain ⟨hl5, hd15⟩ := hS.ok (wss.getD k []) (by rw [List.getD_eq_getElem?_getD, List.getElem?_eq_getElem (by omega)]; exact List.getElem_mem _)
  refine k99.go ?_
  clear k99 G99
  k_steps
  unfold Stop
  (with_reducible rename Fr g0 L0 _ _ => F3)
  (with_reducible rename News g0 L0 _ _ => N3)
  refine kso_max F3 N3 (N3.isList (mTl 7 hr)) hI (by rw [List.length_map, valN_len]; decide) rfl (fun h4 M t4 tk4 F4 N4 hMm hMb => ?_)
  have eM := max_eq hMm hMb
  refine absG fun G99 k99 => ?_
  subst eM
  refine k99.go ?_
  clear k99 G99
  k_steps
  unfold Stop
  (with_reducible rename Fr g0 L0 _ _ => F5)
  (with_reducible rename News g0 L0 _ _ => N5)
  refine LCg.CompSrc.ledger (its := (refs.map Value.ref).toArray) (k := nr) (by rfl) F5 N5 (mTl 7 hrm) (by rw [List.size_toArray, List.length_map, hrl]; decide) (fun g7 => ?_)
  refine comp_el (fun i y => ∃ t, y = Value.int ((wayN (wss.getD k []) wd i).length : Nat) t) (fun i v I' oI C oC D2 m2 ys h8 tk9 E8 hi hv hC hx F8 N8 off ne => ?_) (fun ys hyl hye => ?_)
  · have hi6 : i < 6 := by simpa [hrl] using hi
    refine absG fun G99 k99 => ?_
    obtain ⟨a, ha⟩ : ∃ a, refs[i]? = some a := ⟨_, List.getElem?_eq_getElem (by omega)⟩
    have e1 : v = .ref a := by simpa [ha] using hv.symm
    subst e1
    obtain ⟨ws, nws, hwm9, hwI⟩ := hRA i a ha
    refine k99.go ?_
    clear k99 G99
    have hws : ws.size = (wayN (wss.getD k []) wd i).length := by
      have h1 := hwI.length
      simpa [wayOf, wayN] using h1
    have hws6 : (wayN (wss.getD k []) wd i).length ≤ i := natsOf_len
    k_steps
    (with_reducible rename Fr g0 L0 _ _ => F9)
    (with_reducible rename News g0 L0 _ _ => N9)
    refine Calls.call_len_list (l := a) (items := ws) (N9.isList (mTl 10 hwm9)) (by rw [hws]; omega) ?_
    rw [hws]
    exact LCg.CompEnd.intro F9 N9 _ (fun p hp => hp) off (.inr ⟨_, mTl 7 hrm, rfl, _, rfl⟩) ⟨rfl, _, rfl⟩
  have hyI : IntsAre ys (((List.range 6).map fun j => (wayN (wss.getD k []) wd j).length).map fun (x : Nat) => (x : Int)) := by
    rw [List.map_map]
    exact ints_of ys (List.range 6) (by rw [hyl, List.size_toArray, List.length_map, hrl]; rfl) fun i y hy => by
      refine absG fun G99 k99 => ?_
      obtain ⟨t, rfl⟩ := hye i y hy
      refine k99.go ?_
      clear k99 G99
      have hi6 : i < 6 := by
        have := (List.getElem?_eq_some_iff.mp hy).1
        rw [hyl, List.size_toArray, List.length_map, hrl] at this; exact this
      exact ⟨t, by simp [List.getD_eq_getElem?_getD, hi6]⟩
  k_steps
  unfold Stop
  (with_reducible rename Fr g0 L0 _ _ => F6)
  (with_reducible rename News g0 L0 _ _ => N6)
  refine kso_max F6 N6 (N6.isList (.head _)) hyI (by simp) rfl (fun h7 M2 t7 tk7 F7 N7 hMm2 hMb2 => ?_)
  have eM2 := max_eq hMm2 hMb2
  rw [← (pile_facts (wd := wd) hl5).2.2.1] at eM2
  refine absG fun G99 k99 => ?_
  subst eM2
  refine k99.go ?_
  clear k99 G99
  clear F6 N6
  k_steps
  · (with_reducible rename _ ≠ _ => hne9)
    exact absurd rfl hne9
  unfold Stop
  (with_reducible rename Fr g0 L0 _ _ => F8)
  (with_reducible rename News g0 L0 _ _ => N8)
  exact hret _ _ _ F8 (newsPick [] 1 N8) rfl rfl rfl
end Mine
end

theorem Mine.rs17 {M : Model} {A : Around} {Q : Nat → Shared → Prop} {E : Value → Shared → Prop} {s : Shared} (h : wpAny M A (pure 1) Q E s) : wpAny M A (pure 1) Q E s := by first | (walk1; fail) | exact h
section
open PySem PySem.W PyProof.Rows PySem.Calls
set_option Elab.async false
set_option linter.unusedVariables false
set_option linter.unusedSimpArgs false
set_option maxRecDepth 100000
set_option maxHeartbeats 2000000
set_option pp.maxSteps 1200
set_option pp.deepTerms false
namespace Mine
set_option maxHeartbeats 6000000
local macro_rules | `(tactic| walk_at $s) => if s.getString ∈ ["execs cons If cons", "subscriptTail Name Slice ref ref", "CompSrc"] then `(tactic| refine stop_here ?_) else if s.getString == "eval ListComp" then `(tactic| walk_at "own s2") else Lean.Macro.throwUnsupported
theorem alone_pos {words : List Str} {wd : Int} : 1 ≤ (aloneN words wd).length ∧ (aloneN words wd).length ≤ 6 := by
  refine ⟨List.length_pos_iff.mpr fun e => ?_, natsOf_len⟩
  have : 0 ∈ aloneN words wd := List.mem_filter.mpr ⟨by simp, by rw [valAt_zero]; rfl⟩
  rw [e] at this; cases this
theorem map_getD {l : List Nat} {t : Nat} (h : t < l.length) : (l.map fun (x : Nat) => (x : Int))[t]? = some ((l.getD t 0 : Nat) : Int) := by
  simp [List.getD_eq_getElem?_getD, h]
theorem strs_map {f : Str → Str} : ∀ (ys : List Value) (ss : List Str), ys.length = ss.length → (∀ (i : Nat) (y : Value), ys[i]? = some y → ∃ t, y = Value.str (f (ss.getD i ⟨#[]⟩)) t) → StrsAre ys (ss.map f)
  | [], [], _, _ => .nil
  | y :: ys, x :: ss, h, hy => by
    obtain ⟨t, rfl⟩ := hy 0 y rfl
    exact .cons _ t (strs_map ys ss (by simpa using h) fun i z hz => by simpa using hy (i + 1) z (by simpa using hz))
theorem join_rowS (ss : List Str) : Txt.join (PySem.Str.ofString "") (ss.map fun x => PySem.Str.ofString " " ++ x) = rowS ss := by
  rw [txt_join]
  induction ss with
  | nil => rfl
  | cons x r ih =>
    rw [rowS, ← ih, List.map_cons]
    cases r with
    | nil => show _ = PySem.Str.ofString " " ++ x ++ ⟨#[]⟩; exact (PySem.Str.append_empty _).symm
    | cons y r => exact congrArg (· ++ Str.join ⟨#[]⟩ ((y :: r).map fun x => PySem.Str.ofString " " ++ x)) (PySem.Str.append_empty (PySem.Str.ofString " " ++ x))
theorem alone_lt {words : List Str} {wd : Int} {t : Nat} (h : t + 1 < (aloneN words wd).length) : (aloneN words wd).getD t 0 < (aloneN words wd).getD (t + 1) 0 ∧ (aloneN words wd).getD (t + 1) 0 < 6 := by
  have p : (aloneN words wd).Pairwise (· < ·) := List.Pairwise.filter _ List.pairwise_lt_range
  rw [List.getD_eq_getElem?_getD, List.getElem?_eq_getElem (show t < (aloneN words wd).length by omega), List.getD_eq_getElem?_getD, List.getElem?_eq_getElem h]
  exact ⟨List.pairwise_iff_getElem.mp p t (t + 1) (by omega) h (Nat.lt_succ_self _), natsOf_lt _ (List.getElem_mem _)⟩
theorem rows_ok {w : World} {mean : ExcName → Option Value} {mg mb : Str → Option Value} : ∀ (g0 : Heap) (L0 fa : Addr) (cd : Value) (s : Shared) (m : Str → Option Value) (Q : Flow → Shared → Prop) (E : Value → Shared → Prop) (pl W0 al lv vl : Addr) (as was als rs : List Addr) (wss : List (List Str)) (wd : Int) (tw tk : Tok) (k : Nat) (ow oL oV oK : Obj) (p1 p2 : Array Value) (vals : List Value) (nv : Nat) (ext : List (Addr × Obj)) (N : News g0 L0 s.heap ((vl, listOf vals.toArray nv) :: (L0 + 1 + 1 + 1 + 1, oK) :: (L0 + 1 + 1 + 1, oV) :: (L0 + 1 + 1, oL) :: (L0 + 1, ow) :: (148, tabObj p1) :: (155, tabObj p2) :: ext)) (B0 : Below callerA g0 [] g0) (X0 : (Mine.top.heap_1 w.params).In g0) (T0 : Top topProg (looseW Mine.top.view_1 [Str.ofString "_safe_string", Str.ofString "_Accumulator"] ++ List.map (fun x => x.name) (recsOf Mine.top.view_1) ++ List.map (fun x => x.fst) (litsOf Mine.top.view_1) ++ List.map (fun x => x.name) (clssOf Mine.top.view_1 (looseW Mine.top.view_1 [Str.ofString "_safe_string", Str.ofString "_Accumulator"]))) mean mg mb g0) (F : Fr g0 L0 s.heap m) (hm1 : m "piles" = some (.ref pl)) (hm2 : m "ways" = some (.ref W0)) (hm3 : m "alone" = some (.ref al)) (dw : ow.data = .cell (some (.int wd tw))) (dL : oL.data = .cell (some (.ref lv))) (dV : oV.data = .cell (some (.ref vl))) (dK : oK.data = .cell (some (.int (k : Nat) tk))) (hwd : 0 ≤ wd ∧ wd ≤ 9) (hk2 : k < 2) (hS : Sta ext pl W0 al lv as was als rs wss wd) (hO : Off [vl, L0 + 1 + 1 + 1 + 1, L0 + 1 + 1 + 1, L0 + 1 + 1, L0 + 1, 148, 155] ext) (hlo : (148 : Nat) < L0 ∧ (155 : Nat) < L0 ∧ @LT.lt Nat _ (L0 + 1 + 1 + 1 + 1) vl)
    (hret : ∀ h' tk' m' rl rv nr, Fr g0 L0 h' m' → News g0 L0 h' ((rl, listOf (List.toArray rv) nr) :: (vl, listOf vals.toArray nv) :: (L0 + 1 + 1 + 1 + 1, oK) :: (L0 + 1 + 1 + 1, oV) :: (L0 + 1 + 1, oL) :: (L0 + 1, ow) :: (148, tabObj p1) :: (155, tabObj p2) :: ext) → m' "rows" = some (.ref rl) → m' "piles" = some (.ref pl) → m' "ways" = some (.ref W0) → m' "alone" = some (.ref al) →
      StrsAre rv (rowsB (wss.getD k []) (aloneN (wss.getD k []) wd)) → (∀ p ∈ (vl, listOf vals.toArray nv) :: (L0 + 1 + 1 + 1 + 1, oK) :: (L0 + 1 + 1 + 1, oV) :: (L0 + 1 + 1, oL) :: (L0 + 1, ow) :: (148, tabObj p1) :: (155, tabObj p2) :: ext, p.1 < rl) → wpAny (model PySem.Challenge.rw_wu0081_01.row.prog w) (callerA.deeper (envOfC (Str.ofString "law") lawScope L0 fa cd)) (execs (turnFrom 2) (envOfC (Str.ofString "law") lawScope L0 fa cd)) Q E { s with heap := h', toks := tk' }),
    wpAny (model PySem.Challenge.rw_wu0081_01.row.prog w) (callerA.deeper (envOfC (Str.ofString "law") lawScope L0 fa cd)) (execs (turnFrom 0) (envOfC (Str.ofString "law") lawScope L0 fa cd)) Q E s := by
  k_fill
  intro g0 L0 fa cd s m Q E pl W0 al lv vl as was als rs wss wd tw tk k ow oL oV oK p1 p2 vals nv ext N B0 X0 T0 F hm1 hm2 hm3 dw dL dV dK hwd hk2 hS hO hlo hret
  dsimp only [turnFrom, lawFrom, lawScope, lawDef, lawS, List.drop]
  rw [known3w hm1 hm2 hm3] at F
  refine absG fun G99 k99 => ?_
  obtain ⟨na, hal⟩ := hS.ha
  obtain ⟨ak, hak⟩ : ∃ ak, als[k]? = some ak := ⟨_, List.getElem?_eq_getElem (by rw [hS.la]; exact hk2)⟩
  obtain ⟨av, nak, hakm, hai⟩ := hS.sa k ak hak
  have hx1 : (als.map Value.ref).toArray[((k : Nat) : Int).toNat]? = some (.ref ak) := by simp [hak]
  have hlen := hai.length
  rw [aloneI, List.length_map] at hlen
  obtain ⟨hp1, hp6⟩ := alone_pos (words := wss.getD k []) (wd := wd)
  refine k99.go ?_
  clear k99 G99
  k_steps
  (with_reducible rename Fr g0 L0 _ _ => F1)
  (with_reducible rename News g0 L0 _ _ => N1)
  refine absG fun G99 k99 => ?_
  obtain ⟨n, hn⟩ : ∃ n, (aloneN (wss.getD k []) wd).length = n + 1 := ⟨_, (Nat.succ_pred_eq_of_pos hp1).symm⟩
  obtain ⟨avl, rfl⟩ : ∃ l : List Value, av = l.toArray := ⟨av.toList, by simp⟩
  refine k99.go ?_
  clear k99 G99
  rw [List.toList_toArray] at hai hlen
  have hsz : avl.toArray.size = n + 1 := by rw [List.size_toArray, hlen, hn]
  refine Calls.call_len_list (l := ak) (items := avl.toArray) (N1.isList (mTl 8 hakm)) (by rw [hsz, ← hn]; exact Int.lt_of_le_of_lt (Int.ofNat_le.mpr hp6) (by decide)) ?_
  rw [hsz]
  k_steps
  unfold Stop
  (with_reducible rename IsRange _ _ _ _ _ _ _ _ => hR)
  (with_reducible rename Fr g0 L0 _ _ => F3)
  (with_reducible rename News g0 L0 _ _ => N3)
  (with_reducible rename _ ∧ _ => lR)
  rename_i rl _ _ _ _ _ _ _ _ _ _
  have er : Builtin.Range.rangeSize 0 (((n + 1 : Nat) : Int) - 1) 1 = (n : Int) := by
    rw [rangeSize_nat, Int.sub_zero, Int.natCast_succ, Int.add_sub_cancel, Int.toNat_natCast]
  refine pyIter_range_K (a := 0) (b := ((n + 1 : Nat) : Int) - 1) (c := 1) (small_one (by omega) (by omega) (by omega) (by omega)) F3 N3 hR (fun I h4 F4 N4 nI lI zI itI => ?_)
  rw [er] at itI
  clear F3 N3 hR; (try clear F1); (try clear N1)
  refine for_K (Walks.range rfl I 0 1 n) (fun i h st => ⟨_, st⟩) (fun t m' nw' g9 => g9 = s.gens ∧ m' "rows" = some (.ref rl) ∧ m' "piles" = some (.ref pl) ∧ m' "ways" = some (.ref W0) ∧ m' "alone" = some (.ref al) ∧ ∃ (rv : List Value) (nr : Nat),
      nw' = (rl, listOf rv.toArray nr) :: (vl, listOf vals.toArray nv) :: (L0 + 1 + 1 + 1 + 1, oK) :: (L0 + 1 + 1 + 1, oV) :: (L0 + 1 + 1, oL) :: (L0 + 1, ow) :: (148, tabObj p1) :: (155, tabObj p2) :: ext ∧ StrsAre rv ((List.range t).map fun t => rowS (((wss.getD k []).take ((aloneN (wss.getD k []) wd).getD (t + 1) 0 - 1)).drop ((aloneN (wss.getD k []) wd).getD t 0)))) lI zI (by simpa using itI) F4 N4 nI
      ⟨rfl, rfl, rfl, rfl, rfl, exI2 [] 0 ⟨rfl, .nil⟩⟩ ?turn ?done
  case done =>
    intro m1 nw1 h5 g5 tk5 hJ F5 N5
    refine absG fun G99 k99 => ?_
    refine andE6 hJ fun e9z0 j1 j2 j3 j4 h9z0 => ?_
    refine exE2 h9z0 fun rv nr h9z1 => ?_
    refine andE2 h9z1 fun e9z1 js => ?_
    clear h9z1 h9z0 hJ
    subst e9z0
    subst e9z1
    refine k99.go ?_
    clear k99 G99
    k_steps
    unfold Stop
    exact hret _ _ _ rl rv nr F5 N5 j1 j2 j3 j4 (by rw [rowsB, hn]; exact js) (lt_of_all (l := (vl, listOf vals.toArray nv) :: (L0 + 1 + 1 + 1 + 1, oK) :: (L0 + 1 + 1 + 1, oV) :: (L0 + 1 + 1, oL) :: (L0 + 1, ow) :: (148, tabObj p1) :: (155, tabObj p2) :: ext) lR)
  case turn =>
    intro t v1 m1 nw1 h5 g5 tk5 o5 ht9 hP hJ F5 N5 hn5 S9 hS9 E9
    refine absG fun G99 k99 => ?_
    refine andE6 hJ fun e9z0 j1 j2 j3 j4 h9z0 => ?_
    refine exE2 h9z0 fun rv nr h9z1 => ?_
    refine andE2 h9z1 fun e9z1 js => ?_
    clear h9z1 h9z0 hJ
    subst e9z0
    subst e9z1
    obtain ⟨tk8, rfl⟩ := hP
    refine k99.go ?_
    clear k99 G99
    rw [known4 j1 j2 j3 j4] at F5
    rw [Int.mul_one, Int.zero_add]
    have zrl : @Ne Nat rl I := hn5 _ (.head _)
    have nrl : ∀ p ∈ (I, o5) :: (vl, listOf vals.toArray nv) :: (L0 + 1 + 1 + 1 + 1, oK) :: (L0 + 1 + 1 + 1, oV) :: (L0 + 1 + 1, oL) :: (L0 + 1, ow) :: (148, tabObj p1) :: (155, tabObj p2) :: ext, p.1 ≠ rl := allC (Ne.symm zrl) fun p hp => Nat.ne_of_lt (lt_of_all (l := (vl, listOf vals.toArray nv) :: (L0 + 1 + 1 + 1 + 1, oK) :: (L0 + 1 + 1 + 1, oV) :: (L0 + 1 + 1, oL) :: (L0 + 1, ow) :: (148, tabObj p1) :: (155, tabObj p2) :: ext) lR p hp)
    have hrv := js.length
    rw [List.length_map, List.length_range] at hrv
    refine absG fun G99 k99 => ?_
    obtain ⟨np, hpl⟩ := hS.hp
    obtain ⟨ck, hck⟩ : ∃ ck, as[k]? = some ck := ⟨_, List.getElem?_eq_getElem (by rw [hS.lp]; exact hk2)⟩
    obtain ⟨sv, nsv, hsm, hss⟩ := hS.sp.2 k ck hck
    have hwl : wss.length = 2 := hS.sp.1.symm.trans hS.lp
    obtain ⟨hl5, hd15⟩ := hS.ok (wss.getD k []) (by rw [List.getD_eq_getElem?_getD, List.getElem?_eq_getElem (by omega)]; exact List.getElem_mem _)
    have hx2 : (as.map Value.ref).toArray[((k : Nat) : Int).toNat]? = some (.ref ck) := by simp [hck]
    have hzv : sv.toArray.size ≤ sizeLine := by rw [List.size_toArray, hss.length, hl5]; decide
    have htl : t < (aloneN (wss.getD k []) wd).length := Nat.lt_of_lt_of_eq (Nat.lt_succ_of_lt ht9) hn.symm
    have htl1 : t + 1 < (aloneN (wss.getD k []) wd).length := Nat.lt_of_lt_of_eq (Nat.succ_lt_succ ht9) hn.symm
    obtain ⟨ta, hta⟩ := hai.get t ((aloneN (wss.getD k []) wd).getD t 0 : Nat) (map_getD htl)
    obtain ⟨tb, htb⟩ := hai.get (t + 1) ((aloneN (wss.getD k []) wd).getD (t + 1) 0 : Nat) (map_getD htl1)
    refine k99.go ?_
    clear k99 G99
    have hlt := alone_lt (words := wss.getD k []) (wd := wd) (t := t) htl1
    have hx3 : avl.toArray[((t : Nat) : Int).toNat]? = some (.int ((aloneN (wss.getD k []) wd).getD t 0 : Nat) ta) := by simpa using hta
    have hx4 : avl.toArray[(((t : Nat) : Int) + 1).toNat]? = some (.int ((aloneN (wss.getD k []) wd).getD (t + 1) 0 : Nat) tb) := by
      rw [show (((t : Nat) : Int) + 1).toNat = t + 1 from rfl]; simpa using htb
    generalize hpa : (aloneN (wss.getD k []) wd).getD t 0 = pa at hx3 hlt
    generalize hpb : (aloneN (wss.getD k []) wd).getD (t + 1) 0 = pb at hx4 hlt
    k_steps
    unfold Stop
    (k_here; k_dflt (refine' slice_strs ?Fzq ?Nzq ?lzq ?pzq ?qzq ?izq ?hxzq ?hyzq ?_ ?szq ?tzq ?zzq; (case Fzq => k_asm); (case Nzq => k_asm); (case lzq => first | kmk_list | exact News.isList (by k_asm) (by repeat (first | with_reducible_and_instances assumption | refine List.Mem.tail _ ?_))); (case pzq => exact IsPart.int _ _); (case qzq => exact IsPart.int _ _); (case izq => assumption); (case hxzq => omega); (case hyzq => omega); (case szq => with_unfolding_all rfl); (case tzq => kmk_pure); (case zzq => assumption)); intro D hz9 sw F6 N6 lD hws; (try k_lt lD))
    k_steps
    unfold Stop
    rw [show ((pa : Nat) : Int).toNat = pa from rfl, show (((pb : Nat) : Int) - 1).toNat = pb - 1 from Int.toNat_sub pb 1] at hws
    generalize hss2 : ((wss.getD k []).take (pb - 1)).drop pa = ss at hws
    have hsb : ss.length ≤ 5 ∧ ∀ x ∈ ss, x.length ≤ 100 := by
      rw [← hss2]
      exact ⟨by rw [List.length_drop, List.length_take]; exact Nat.le_trans (Nat.sub_le _ _) (Nat.le_trans (Nat.min_le_right _ _) (Nat.le_of_eq hl5)), fun x hx => (due15_ok x (hd15 x (List.mem_of_mem_take (List.mem_of_mem_drop hx)))).1⟩
    have hwl2 := hws.length
    refine LCg.CompSrc.ledger (its := sw.toArray) (k := 0) (by rfl) F6 N6 (.head _) (by rw [List.size_toArray, hwl2, PySem.sizeLine_eq]; exact Nat.le_trans hsb.1 (by decide)) (fun g7 => ?_)
    refine comp_el (fun i y => ∃ t, y = Value.str (PySem.Str.ofString " " ++ ss.getD i ⟨#[]⟩) t) (fun i v I' oI C oC D2 m2 ys h8 tk9 E8 hi hv hC hx F8 N8 off ne => ?_) (fun ys hyl hye => ?_)
    · have hi2 : i < ss.length := by rw [← hwl2]; simpa using hi
      refine absG fun G99 k99 => ?_
      obtain ⟨x, hxx⟩ : ∃ x, ss[i]? = some x := ⟨_, List.getElem?_eq_getElem hi2⟩
      obtain ⟨tx, htx⟩ := strs_get hws i x hxx
      have e1 : v = .str x tx := by
        have h1 : sw[i]? = some v := by simpa using hv
        rw [h1] at htx; exact Option.some.inj htx
      subst e1
      refine k99.go ?_
      clear k99 G99
      have e2 : ss.getD i ⟨#[]⟩ = x := by rw [List.getD_eq_getElem?_getD, hxx]; rfl
      have hxl := hsb.2 x (List.mem_of_getElem? hxx)
      rw [e2]
      k_steps
      (with_reducible rename Fr g0 L0 _ _ => F9)
      (with_reducible rename News g0 L0 _ _ => N9)
      exact LCg.CompEnd.intro F9 N9 _ (fun p hp => hp) off (.inr ⟨_, .head _, rfl, _, rfl⟩) ⟨rfl, _, rfl⟩
    have hys := strs_map (f := fun x => PySem.Str.ofString " " ++ x) ys ss (by rw [hyl, List.size_toArray, hwl2]) hye
    have hyb : ∀ x ∈ ss.map (fun x => PySem.Str.ofString " " ++ x), x.length ≤ 101 := fun x hx => by
      refine absG fun G99 k99 => ?_
      obtain ⟨y, hy, rfl⟩ := List.mem_map.mp hx
      refine k99.go ?_
      clear k99 G99
      have := hsb.2 y hy
      rw [strLen_append, show (PySem.Str.ofString " ").length = 1 by decide +kernel, Nat.add_comm]; exact Nat.succ_le_succ this
    clear F6 N6
    k_steps
    (with_reducible rename Fr g0 L0 _ _ => F9)
    (with_reducible rename News g0 L0 _ _ => N9)
    have hsum := StrLaws.sumLen_le _ hyb
    rw [List.length_map] at hsum
    refine join_listW ⟨_, (N9 _ (.head _)).1, rfl, _, rfl⟩ hys (by decide +kernel) (by rw [List.length_map]; omega) (fun t' k' => ?_)
    rw [join_rowS]
    k_steps
    (with_reducible rename Fr g0 L0 _ _ => F9)
    (with_reducible rename News g0 L0 _ _ => N9)
    rw [show rv.toArray.push (.str (rowS ss) t') = (rv ++ [Value.str (rowS ss) t']).toArray by simp] at N9
    refine hS9 _ (stepK (news := (rl, listOf (rv ++ [Value.str (rowS ss) t']).toArray (nr + 1)) :: (vl, listOf vals.toArray nv) :: (L0 + 1 + 1 + 1 + 1, oK) :: (L0 + 1 + 1 + 1, oV) :: (L0 + 1 + 1, oL) :: (L0 + 1, ow) :: (148, tabObj p1) :: (155, tabObj p2) :: ext) F9 (newsPick [2, 3] 4 N9) (allC zrl (pick [] 1 hn5)) ⟨rfl, rfl, rfl, rfl, rfl, exI2 (rv ++ [Value.str (rowS ss) t']) (nr + 1) ⟨rfl, ?_⟩⟩)
    rw [List.range_succ, List.map_append]
    have e := strsAre_snoc js (rowS ss) t'
    rw [← hss2, ← hpa, ← hpb] at e ⊢
    exact e
end Mine
end

theorem Mine.rs18 {M : Model} {A : Around} {Q : Nat → Shared → Prop} {E : Value → Shared → Prop} {s : Shared} (h : wpAny M A (pure 1) Q E s) : wpAny M A (pure 1) Q E s := by first | (walk1; fail) | exact h
section
open PySem PySem.W PyProof.Rows PySem.Calls
set_option Elab.async false
set_option linter.unusedVariables false
set_option linter.unusedSimpArgs false
set_option maxRecDepth 100000
set_option maxHeartbeats 2000000
set_option pp.maxSteps 1200
set_option pp.deepTerms false
namespace Mine
set_option maxHeartbeats 6000000
local macro_rules | `(tactic| walk_at $s) => if s.getString == "CompSrc" then `(tactic| refine stop_here ?_) else if s.getString == "eval ListComp" then `(tactic| walk_at "own s2") else Lean.Macro.throwUnsupported
section
variable {prog : Program} {w : World} {A : Around} {E : Value → Shared → Prop} {s : Shared} {h₀ : Heap} {L : Addr} {m : Str → Option Value} {news : List (Addr × Obj)}
theorem set_K {l : Addr} {vs : List Value} {ns : List Int} {Q : Value → Shared → Prop} (F : Fr h₀ L s.heap m) (N : News h₀ L s.heap news) (hh : A.handled = none) (hl : s.heap.IsList l vs.toArray) (hi : IntsAre vs ns) (hnd : ns.Nodup) (hb : ns.length < 100)
    (h : ∀ D h' tk o, Fr h₀ L h' m → News h₀ L h' ((D, o) :: news) → o.SetObjOf (PySem.intKind prog w) (fun k' => ns.any (· == k')) ns.length → Q (.ref D) { s with heap := h', toks := tk }) :
    wpAny (model prog w) A (call (.type "set") [.ref l]) Q E s := by
  have hvn : vs.length = ns.length := hi.length
  have hsz : vs.toArray.size = ns.length := by rw [List.size_toArray, hvn]
  refine PySem.call_set_list (items := vs.toArray) (ns := ns) hh hl (by simpa using hi) (by rw [hsz]; unfold scanBound; omega) fun h' tk hS hk => ?_
  rw [hsz, firstMet_nodup hnd _ (Nat.le_refl _), List.take_length] at hS
  refine absG fun G99 k99 => ?_
  obtain ⟨o, ho, hso⟩ := hS.objOf
  obtain ⟨oL, _, _, hL, _⟩ := F.ns
  refine k99.go ?_
  clear k99 G99
  have hLlt : L < s.heap.objs.size := Heap.lt_size hL
  have kk : ∀ b o, s.heap.get? b = some o → h'.get? b = some o := fun b o e => hk b o (Heap.lt_size e) e
  refine h _ h' tk o (fr_k F kk) (fun p hp => ?_) hso
  rcases List.mem_cons.mp hp with rfl | hp
  · refine ⟨ho, Nat.ne_of_gt hLlt, ?_⟩
    cases hq : h₀.get? s.heap.objs.size with
    | none => rfl
    | some o' => exact absurd (Heap.lt_size (F.keep _ _ hq)) (Nat.lt_irrefl _)
  · exact news_k N kk p hp
end
theorem way_ok {w : World} {mean : ExcName → Option Value} {mg mb : Str → Option Value} : ∀ (g0 : Heap) (L0 fa : Addr) (cd : Value) (s : Shared) (m : Str → Option Value) (Q : Flow → Shared → Prop) (E : Value → Shared → Prop) (pl W0 al lv vl : Addr) (as was als rs : List Addr) (wss : List (List Str)) (wd : Int) (tw tk : Tok) (k : Nat) (ow oL oV oK : Obj) (p1 p2 : Array Value) (vals : List Value) (nv : Nat) (ext : List (Addr × Obj)) (r : Addr) (vs : List Value) (n : Nat) (N : News g0 L0 s.heap ((vl, listOf vals.toArray nv) :: (L0 + 1 + 1 + 1 + 1, oK) :: (L0 + 1 + 1 + 1, oV) :: (L0 + 1 + 1, oL) :: (L0 + 1, ow) :: (148, tabObj p1) :: (155, tabObj p2) :: ext)) (B0 : Below callerA g0 [] g0) (X0 : (Mine.top.heap_1 w.params).In g0) (T0 : Top topProg (looseW Mine.top.view_1 [Str.ofString "_safe_string", Str.ofString "_Accumulator"] ++ List.map (fun x => x.name) (recsOf Mine.top.view_1) ++ List.map (fun x => x.fst) (litsOf Mine.top.view_1) ++ List.map (fun x => x.name) (clssOf Mine.top.view_1 (looseW Mine.top.view_1 [Str.ofString "_safe_string", Str.ofString "_Accumulator"]))) mean mg mb g0) (F : Fr g0 L0 s.heap m) (hm1 : m "piles" = some (.ref pl)) (hm2 : m "ways" = some (.ref W0)) (hm3 : m "alone" = some (.ref al)) (dw : ow.data = .cell (some (.int wd tw))) (dL : oL.data = .cell (some (.ref lv))) (dV : oV.data = .cell (some (.ref vl))) (dK : oK.data = .cell (some (.int (k : Nat) tk))) (hwd : 0 ≤ wd ∧ wd ≤ 9) (hk2 : k < 2) (hS : Sta ext pl W0 al lv as was als rs wss wd) (hO : Off [vl, L0 + 1 + 1 + 1 + 1, L0 + 1 + 1 + 1, L0 + 1 + 1, L0 + 1, 148, 155] ext) (hlo : (148 : Nat) < L0 ∧ (155 : Nat) < L0 ∧ @LT.lt Nat _ (L0 + 1 + 1 + 1 + 1) vl) (hvk : vals[k]? = some (.ref r)) (hr : (r, listOf vs.toArray n) ∈ ext) (hI : IntsAre vs ((valN (wss.getD k []) wd 6).map fun (x : Nat) => (x : Int)))
    (hret : ∀ h' tk' m', Fr g0 L0 h' m' → News g0 L0 h' ((vl, listOf vals.toArray nv) :: (L0 + 1 + 1 + 1 + 1, oK) :: (L0 + 1 + 1 + 1, oV) :: (L0 + 1 + 1, oL) :: (L0 + 1, ow) :: (148, tabObj p1) :: (155, tabObj p2) :: ext) → m' "piles" = some (.ref pl) → m' "ways" = some (.ref W0) → m' "alone" = some (.ref al) → Q .next { s with heap := h', toks := tk' }),
    wpAny (model PySem.Challenge.rw_wu0081_01.row.prog w) (callerA.deeper (envOfC (Str.ofString "law") lawScope L0 fa cd)) (execs (turnFrom 5) (envOfC (Str.ofString "law") lawScope L0 fa cd)) Q E s := by
  k_fill
  intro g0 L0 fa cd s m Q E pl W0 al lv vl as was als rs wss wd tw tk k ow oL oV oK p1 p2 vals nv ext r vs n N B0 X0 T0 F hm1 hm2 hm3 dw dL dV dK hwd hk2 hS hO hlo hvk hr hI hret
  dsimp only [turnFrom, lawFrom, lawScope, lawDef, lawS, List.drop]
  rw [known3w hm1 hm2 hm3] at F
  have hvx : vals.toArray[((k : Nat) : Int).toNat]? = some (.ref r) := by simpa using hvk
  refine absG fun G99 k99 => ?_
  obtain ⟨nw, hwm⟩ := hS.hw
  obtain ⟨Wk, hWk⟩ : ∃ Wk, was[k]? = some Wk := ⟨_, List.getElem?_eq_getElem (by rw [hS.lw]; exact hk2)⟩
  obtain ⟨refs, nr, hrm, hrl, hRA⟩ := hS.sw k Wk hWk
  have hwx : (was.map Value.ref).toArray[((k : Nat) : Int).toNat]? = some (.ref Wk) := by simp [hWk]
  have hwl : wss.length = 2 := hS.sp.1.symm.trans hS.lp
  obtain ⟨hl5, hd15⟩ := hS.ok (wss.getD k []) (by rw [List.getD_eq_getElem?_getD, List.getElem?_eq_getElem (by omega)]; exact List.getElem_mem _)
  refine k99.go ?_
  clear k99 G99
  k_steps
  unfold Stop
  (with_reducible rename Fr g0 L0 _ _ => F3)
  (with_reducible rename News g0 L0 _ _ => N3)
  refine pyIter_list_K (l := Wk) (its := (refs.map Value.ref).toArray) F3 N3 ⟨_, (N3 _ (mTl 7 hrm)).1, rfl, _, rfl⟩ (fun I h4 F4 N4 nI lI zI iI itI => ?_)
  clear F3 N3
  refine for_KL (I := I) (ax := Wk) (its := (refs.map Value.ref).toArray) (lo := listOf (refs.map Value.ref).toArray nr) rfl iI rfl ⟨_, rfl⟩ (fun i m' nw' g9 => g9 = s.gens ∧ m' "piles" = some (.ref pl) ∧ m' "ways" = some (.ref W0) ∧ m' "alone" = some (.ref al) ∧ nw' = (vl, listOf vals.toArray nv) :: (L0 + 1 + 1 + 1 + 1, oK) :: (L0 + 1 + 1 + 1, oV) :: (L0 + 1 + 1, oL) :: (L0 + 1, ow) :: (148, tabObj p1) :: (155, tabObj p2) :: ext) (fun i m nw g h => by
        refine absG fun G99 k99 => ?_
        obtain ⟨_, _, _, _, rfl⟩ := h
        refine k99.go ?_
        clear k99 G99
        exact mTl 7 hrm) lI zI itI F4 N4 nI ⟨rfl, rfl, rfl, rfl, rfl⟩ ?turn ?done
  case done =>
    intro m1 nw1 h5 g5 tk5 hJ F5 N5
    refine absG fun G99 k99 => ?_
    obtain ⟨rfl, j1, j2, j3, rfl⟩ := hJ
    refine k99.go ?_
    clear k99 G99
    k_steps
    exact hret _ _ _ F5 N5 j1 j2 j3
  case turn =>
    intro i v1 m1 nw1 h5 g5 tk5 o5 hi9 hv9 hJ F5 N5 hn5 S9 hS9 E9
    refine absG fun G99 k99 => ?_
    obtain ⟨rfl, j1, j2, j3, rfl⟩ := hJ
    rw [known3w j1 j2 j3] at F5
    have hi6 : i < 6 := by simpa [hrl] using hi9
    obtain ⟨a, ha⟩ : ∃ a, refs[i]? = some a := ⟨_, List.getElem?_eq_getElem (by omega)⟩
    have e1 : v1 = .ref a := by simpa [ha] using hv9.symm
    subst e1
    obtain ⟨ws, nws, hwm9, hwI⟩ := hRA i a ha
    refine k99.go ?_
    clear k99 G99
    have hws : ws.size = (wayN (wss.getD k []) wd i).length := by
      have h1 := hwI.length
      simpa [wayOf, wayN] using h1
    have hws6 : (wayN (wss.getD k []) wd i).length ≤ i := natsOf_len
    k_steps
    unfold Stop
    refine absG fun G99 k99 => ?_
    obtain ⟨ws, rfl⟩ : ∃ l : List Value, ws = l.toArray := ⟨ws.toList, by simp⟩
    refine k99.go ?_
    clear k99 G99
    rw [List.toList_toArray] at hwI
    (with_reducible rename Fr g0 L0 _ _ => F6)
    (with_reducible rename News g0 L0 _ _ => N6)
    refine LCg.CompSrc.ledger (its := ws.toArray) (k := nws) (by rfl) F6 N6 (mTl 8 hwm9) (by rw [hws, PySem.sizeLine_eq]; omega) (fun g7 => ?_)
    refine comp_el (fun j y => ∃ t, y = Value.int (valAt (wss.getD k []) wd ((wayN (wss.getD k []) wd i).getD j 0) : Nat) t) (fun j v I' oI C oC D2 m2 ys h8 tk9 E8 hj hv hC hx F8 N8 off ne => ?_) (fun ys hyl hye => ?_)
    · have hj2 : j < (wayN (wss.getD k []) wd i).length := by rw [← hws]; exact hj
      refine absG fun G99 k99 => ?_
      obtain ⟨th, hth⟩ := hwI.get j ((wayN (wss.getD k []) wd i).getD j 0 : Nat) (map_getD hj2)
      have hh6 : (wayN (wss.getD k []) wd i).getD j 0 < i := by
        rw [List.getD_eq_getElem?_getD, List.getElem?_eq_getElem hj2]; exact natsOf_lt _ (List.getElem_mem _)
      have e2 : v = .int ((wayN (wss.getD k []) wd i).getD j 0 : Nat) th := by
        have h1 : ws[j]? = some v := by simpa using hv
        rw [h1] at hth; exact Option.some.inj hth
      subst e2
      refine k99.go ?_
      clear k99 G99
      generalize (wayN (wss.getD k []) wd i).getD j 0 = hh at hh6 hx
      refine absG fun G99 k99 => ?_
      obtain ⟨tv, htv⟩ := hI.get hh (valAt (wss.getD k []) wd hh : Nat) (map_getD (by rw [valN_len]; omega))
      refine k99.go ?_
      clear k99 G99
      have hvx2 : vs.toArray[((hh : Nat) : Int).toNat]? = some (.int (valAt (wss.getD k []) wd hh : Nat) tv) := by simpa using htv
      k_steps
      (with_reducible rename Fr g0 L0 _ _ => F9)
      (with_reducible rename News g0 L0 _ _ => N9)
      exact LCg.CompEnd.intro F9 N9 _ (fun p hp => hp) off (.inr ⟨_, mTl 8 hwm9, rfl, _, rfl⟩) ⟨rfl, _, rfl⟩
    have hyI : IntsAre ys (((wayN (wss.getD k []) wd i).map (valAt (wss.getD k []) wd)).map fun (x : Nat) => (x : Int)) := by
      rw [List.map_map]
      exact ints_of ys (wayN (wss.getD k []) wd i) (by rw [hyl, hws]) hye
    have hnd := nodup_int ((pile_facts (wd := wd) hl5).2.2.2 i hi6).1
    clear F6 N6
    k_steps
    (with_reducible rename Fr g0 L0 _ _ => F6)
    (with_reducible rename News g0 L0 _ _ => N6)
    refine set_K F6 N6 rfl (N6.isList (.head _)) hyI hnd (by simp only [List.length_map]; omega) fun D9 h9 tk9 o9 F9 N9 hso => ?_
    refine absG fun G99 k99 => ?_
    obtain ⟨hex, es, ep, tt, hd9, _, _, hn9, hf9⟩ := hso
    refine k99.go ?_
    clear k99 G99
    rw [List.length_map, List.length_map] at hn9
    clear F6 N6
    k_steps
    (with_reducible rename Fr g0 L0 _ _ => F6)
    (with_reducible rename News g0 L0 _ _ => N6)
    refine call_len_set (N6 _ (.head _)).1 hex hd9 hf9 (by rw [hn9]; omega) ?_
    rw [hn9]
    (try clear F9); (try clear N9)
    k_steps
    (with_reducible rename Fr g0 L0 _ _ => F7)
    (with_reducible rename News g0 L0 _ _ => N7)
    refine Calls.call_len_list (l := a) (items := ws.toArray) (N7.isList (mTl 10 hwm9)) (by rw [hws]; omega) ?_
    rw [hws]
    k_steps
    · (with_reducible rename _ ≠ _ => hne9)
      exact absurd rfl hne9
    (with_reducible rename Fr g0 L0 _ _ => F8)
    (with_reducible rename News g0 L0 _ _ => N8)
    exact hS9 _ (stepK (news := (vl, listOf vals.toArray nv) :: (L0 + 1 + 1 + 1 + 1, oK) :: (L0 + 1 + 1 + 1, oV) :: (L0 + 1 + 1, oL) :: (L0 + 1, ow) :: (148, tabObj p1) :: (155, tabObj p2) :: ext) F8 (newsPick [] 2 N8) hn5 ⟨rfl, rfl, rfl, rfl, rfl⟩)
end Mine
end

section
open PySem PySem.W PyProof.Rows PySem.Calls
set_option Elab.async false
set_option linter.unusedVariables false
set_option linter.unusedSimpArgs false
set_option maxRecDepth 100000
set_option maxHeartbeats 2000000
set_option pp.maxSteps 1200
set_option pp.deepTerms false
namespace Mine
structure HidC (p : Prop) : Prop where
  out : p
section
variable {prog : Program} {w : World} {A : Around} {E : Value → Shared → Prop} {s : Shared} {h₀ : Heap} {L : Addr} {m : Str → Option Value} {env : Env}
theorem comp_cell {elt iter : Expr} {x y : Str} {px py : Pos} {scope : Scope} {cl : List (Str × Addr)} {pos spos : Pos} {z1 z3 : Str} {Q : Flow → Shared → Prop} (hLe : env.locals = L)
    (hsw : swapsWith (.ListComp elt [⟨.Name x px, iter, [], 0⟩] scope pos) (some (.Name y py)) spos.line env = pure true)
    (hclos : closureFor scope env = pure cl) (hnm : scope.names = [(z1, .local), (x, .cell), (z3, .free)]) (hkind : scope.kind = .function)
    (hnames : ∀ z ∈ scope.names, z.2 = .local → scope.names.lookup z.1 = some .local) (hx : (relabel scope env).names.lookup x = some .cell)
    (hy : env.kindOf y = some .local) (hp : (env.scope.kind == .class || (env.scope.kind == .module && env.locals != env.globals)) = false)
    (h : wpAny (model prog w) A (eval iter env) (fun xv s₁ => HidC (∃ (ax : Addr) (its : Array Value) (k : Nat) (news : List (Addr × Obj)) (Inv : Nat → List Value → List (Addr × Obj) → Prop), xv = .ref ax ∧ A.handled = none ∧ Fr h₀ L s₁.heap m ∧ News h₀ L s₁.heap news ∧ its.size ≤ 1000 ∧
      (∀ i ys nw, Inv i ys nw → (ax, listOf its k) ∈ nw) ∧ Inv 0 [] news ∧
      (∀ i v I oI C oC D K oK h tk ys nw (E' : Value → Shared → Prop), its[i]? = some v → Inv i ys nw → oK.data = .cell (some v) → Fr h₀ L h m → News h₀ L h ((K, oK) :: (I, oI) :: (C, oC) :: (D, listOf (List.toArray ys) ys.length) :: nw) → (∀ p ∈ nw, p.1 ≠ I ∧ p.1 ≠ C ∧ p.1 ≠ D ∧ p.1 ≠ K) →
        wpAny (model prog w) A (eval elt (compEnvC scope ((x, K) :: cl) C env)) (fun v' s₄ => HidC (∃ h' tk' nw', s₄ = { s₁ with heap := h', toks := tk' } ∧ Fr h₀ L h' m ∧ News h₀ L h' ((K, oK) :: (I, oI) :: (C, oC) :: (D, listOf (List.toArray ys) ys.length) :: nw') ∧ (∀ p ∈ nw', p.1 ≠ I ∧ p.1 ≠ C ∧ p.1 ≠ D ∧ p.1 ≠ K) ∧ Inv (i + 1) (ys ++ [v']) nw')) E' { s₁ with heap := h, toks := tk }) ∧
      (∀ ys nw D h tk, Inv its.size ys nw → Fr h₀ L h (fun z => if z = y then some (.ref D) else m z) → News h₀ L h ((D, listOf (List.toArray ys) ys.length) :: nw) → (∀ p ∈ nw, p.1 ≠ D) → Q .next { s₁ with heap := h, toks := tk }))) E s)
    (hs : ∀ x, foldedSetIterable iter env x = pure x := by intro _; rfl) :
    wpAny (model prog w) A (exec (.Assign [.Name y py] (.ListComp elt [⟨.Name x px, iter, [], 0⟩] scope pos) spos) env) Q E s := by
  refine absG fun G99 k99 => ?_
  subst hLe
  refine k99.go ?_
  clear k99 G99
  rw [exec_Assign_Name_used _ _ _ _ hsw]
  refine wpAny_bind (wpAny_standAt (wpAny_bind ?_))
  show wpAny _ A (do let _ ← comprehension (.ListComp elt [⟨.Name x px, iter, [], 0⟩] scope pos) scope env _ (newList []) false (eval iter env) (some (assign (.Name y py) env))) _ _ s
  refine wpAny_bind (wpAny_mono (wpAny_comprehension_free (use := some (assign (.Name y py) env)) (Q := fun _ s' => Q .next s') rfl hs hclos hkind hnames
    (wpAny_mono h (fun xv s₁ h₁ => ?_) fun _ _ e => e)) (fun _ s' hq => wpAny_pure (wpAny_pure hq)) fun _ _ e => e)
  refine absG fun G99 k99 => ?_
  refine exE5 h₁.out fun ax its k news Inv h9z0 => ?_
  refine andE9 h9z0 fun e9z0 hh F N hsz hax h0 turn fin => ?_
  clear h9z0
  subst e9z0
  refine k99.go ?_
  clear k99 G99
  have hl : s₁.heap.IsList ax its := ⟨_, (N _ (hax _ _ _ h0)).1, rfl, _, rfl⟩
  refine wpAny_pyIter_list hl ?_
  refine absG fun G99 k99 => ?_
  obtain ⟨F1, N1, a1, a2, a3, a4⟩ := new_K (o := { cls := .type "list_iterator", data := .fields #[.ref ax, .int 0 0] }) F N rfl
  refine k99.go ?_
  clear k99 G99
  have hIa : ax ≠ s₁.heap.objs.size := Nat.ne_of_lt (by obtain ⟨_, e, _⟩ := hl; exact Heap.lt_size e)
  have NI : News h₀ env.locals _ ((s₁.heap.objs.size, { cls := .type "list_iterator", data := .fields #[.ref ax, .int 0 0] }) :: news) := allC ⟨a4, fun e => a2 e.symm, a3⟩ N1
  generalize hH1 : s₁.heap.push { cls := .type "list_iterator", data := .fields #[.ref ax, .int 0 0] } = H1 at *
  generalize s₁.heap.objs.size = I at *
  clear N1 a4 hl hH1
  refine wpAny_newObj_type ?_
  show wpAny _ _ _ _ _ { s₁ with heap := H1.push (listOf (List.toArray []) 0) }
  refine absG fun G99 k99 => ?_
  obtain ⟨F2, N2, b1, b2, b3, b4⟩ := new_K (s := { s₁ with heap := H1 }) (o := listOf (List.toArray []) 0) F1 NI rfl
  refine k99.go ?_
  clear k99 G99
  have ND : News h₀ env.locals _ ((H1.objs.size, listOf (List.toArray []) 0) :: (I, { cls := .type "list_iterator", data := .fields #[.ref ax, .int 0 0] }) :: news) := allC ⟨b4, fun e => b2 e.symm, b3⟩ N2
  dsimp only at F2 ND b1 b2 b3
  generalize hD : H1.objs.size = D at *
  generalize hH2 : H1.push (listOf (List.toArray []) 0) = H2 at *
  clear N2 b4
  simp only [newFunctionEnv, Option.isSome_some, if_true]
  refine wpAny_bind (wpAny_alloc ?_)
  show wpAny _ _ _ _ _ { s₁ with heap := H2.push { cls := .type "dict", data := .dict #[] } }
  refine absG fun G99 k99 => ?_
  obtain ⟨F3, N3, c1, c2, c3, c4⟩ := new_K (s := { s₁ with heap := H2 }) (o := { cls := .type "dict", data := .dict #[] }) F2 ND rfl
  refine k99.go ?_
  clear k99 G99
  have NC : News h₀ env.locals _ ((H2.objs.size, { cls := .type "dict", data := .dict #[] }) :: (D, listOf (List.toArray []) 0) :: (I, { cls := .type "list_iterator", data := .fields #[.ref ax, .int 0 0] }) :: news) := allC ⟨c4, fun e => c2 e.symm, c3⟩ N3
  have hns := (Heap.Ns.new H2 (.type "dict") : _)
  dsimp only at F3 NC c1 c2 c3
  show wpAny _ _ _ _ _ _
  generalize hC : H2.objs.size = C at *
  generalize hH3 : H2.push { cls := .type "dict", data := .dict #[] } = H3 at *
  clear N3 c4
  refine wpAny_bind (wpAny_layCells _ (fun name kind cells => by cases hkc : kind == NameKind.cell <;> simp [hkc]) _ _ _ _ ?_)
  rw [hnm]
  rw [List.forIn_nil]
  refine wpAny_bind (wpAny_pure (wpAny_pure ?_))
  show codeAny (model prog w) A (.compStart (.ListComp elt [⟨.Name x px, iter, [], 0⟩] scope pos) 0 (.ref I) (.ref D) (compEnvC scope ((x, H3.objs.size) :: cl) C env)) (compPost (model prog w) A E (some (assign (.Name y py) env)) (fun _ s' => Q .next s') (.ref D) C) { s₁ with heap := H3.push { cls := .type "cell", data := .cell none } }
  refine absG fun G99 k99 => ?_
  obtain ⟨F4, N4, k1, k2, k3, k4⟩ := new_K (s := { s₁ with heap := H3 }) (o := { cls := .type "cell", data := .cell none }) F3 NC rfl
  refine k99.go ?_
  clear k99 G99
  have hns4 : (H3.push { cls := .type "cell", data := .cell none }).Ns C fun x => none := hns.at' fun o e => Heap.get?_push_of_some _ e
  dsimp only at F4 N4 k1 k2 k3 k4
  generalize hK : H3.objs.size = K at *
  generalize hH4 : H3.push { cls := .type "cell", data := .cell none } = H4 at *
  have nID : @Ne Nat I D := b1 _ (.head _)
  have nDC : @Ne Nat D C := c1 _ (.head _)
  have nIC : @Ne Nat I C := c1 _ (.tail _ (.head _))
  have nCK : @Ne Nat C K := k1 _ (.head _)
  have nDK : @Ne Nat D K := k1 _ (.tail _ (.head _))
  have nIK : @Ne Nat I K := k1 _ (.tail _ (.tail _ (.head _)))
  have hoff : ∀ p ∈ news, p.1 ≠ I ∧ p.1 ≠ C ∧ p.1 ≠ D ∧ p.1 ≠ K := fun p hp => ⟨a1 p hp, c1 p (.tail _ (.tail _ hp)), b1 p (.tail _ hp), k1 p (.tail _ (.tail _ (.tail _ hp)))⟩
  have W : Walks prog w A I [I, ax] [I] its.size (fun i v => its[i]? = some v) (fun i h => h.IsListIter I ax i ∧ h.IsList ax its) := Walks.list hh I ax hIa its
  have hst0 : H4.IsListIter I ax 0 ∧ H4.IsList ax its := ⟨⟨_, (N4 _ (.tail _ (.tail _ (.head _)))).1, rfl, rfl⟩, ⟨_, (N4 _ (.tail _ (.tail _ (.tail _ (hax _ _ _ h0))))).1, rfl, _, rfl⟩⟩
  have loop : codeAny (model prog w) A (.compLoop (.ListComp elt [⟨.Name x px, iter, [], 0⟩] scope pos) 0 (.ref I) (.ref D) (compEnvC scope ((x, K) :: cl) C env)) (compPost (model prog w) A E (some (assign (.Name y py) env)) (fun _ s' => Q .next s') (.ref D) C) { s₁ with heap := H4 } := by
    refine codeAny_compLoop_tests (fun k' s' => ∃ h' tk i ys m' nw oK vK, s' = { s₁ with heap := h', toks := tk } ∧ i ≤ its.size ∧ k' = its.size + 1 - i ∧ ys.length = i ∧ h'.IsListIter I ax i ∧ Fr h₀ env.locals h' m ∧ h'.Ns C m' ∧
      News h₀ env.locals h' ((K, oK) :: (D, listOf (List.toArray ys) ys.length) :: nw) ∧ oK.data = .cell vK ∧ (∀ p ∈ nw, p.1 ≠ I ∧ p.1 ≠ C ∧ p.1 ≠ D ∧ p.1 ≠ K) ∧ Inv i ys nw) ?_ (its.size + 1)
      ⟨H4, _, 0, [], _, news, _, none, rfl, Nat.zero_le _, rfl, rfl, hst0.1, F4, hns4, allC ⟨k4, fun e => k2 e.symm, k3⟩ (pick [1] 3 N4), rfl, hoff, h0⟩
    rintro k' s' hR8
    refine absG fun G99 k99 => ?_
    refine exE8 hR8 fun h' tk i ys m' nw oK vK h9z0 => ?_
    refine andE11 h9z0 fun e9z0 hi e9z1 hyl hst' F' hn' N' hd' off' hI' => ?_
    clear h9z0 hR8
    subst e9z0
    subst e9z1
    refine k99.go ?_
    clear k99 G99
    have hl' : h'.IsList ax its := ⟨_, (N' _ (.tail _ (.tail _ (hax _ _ _ hI')))).1, rfl, _, rfl⟩
    rcases Nat.lt_or_eq_of_le hi with hlt | rfl
    · refine W.item i _ _ _ hlt ⟨hst', hl'⟩ fun v h₂ tk₂ hPv hst₂ hk₂ => ?_
      have kk : ∀ b o, b ≠ I → h'.get? b = some o → h₂.get? b = some o := fun b o hb e => hk₂ b o (fun q => hb (List.mem_singleton.mp q)) e
      refine wpAny_assign_Name (wpAny_storeName_cell (c := K) (v₀ := vK) hkind hx (by show List.lookup x ((x, K) :: cl) = some K; simp) ⟨oK, kk _ _ (Ne.symm nIK) (N' _ (.head _)).1, hd'⟩ fun h₃ hc₃ hs₃ => ?_)
      refine wpAny_tests_nil ?_
      simp only [if_true]
      refine absG fun G99 k99 => ?_
      obtain ⟨oK', hoK, hdK⟩ := hc₃
      obtain ⟨oI, hoI, hrI⟩ := hst₂.1
      have kk3 : ∀ b o, b ≠ I → b ≠ K → h'.get? b = some o → h₃.get? b = some o := fun b o hb hb2 e => hs₃.extBut b o hb2 (kk b o hb e)
      have hoI3 : h₃.get? I = some oI := hs₃.extBut _ _ nIK hoI
      obtain ⟨oC, hoC, hCs⟩ := LCg.ns_obj (hn'.at' fun o e => kk3 _ o (Ne.symm nIC) nCK e)
      refine k99.go ?_
      clear k99 G99
      have F₃ : Fr h₀ env.locals h₃ m := (fr_mod F' kk a2 a3).change hs₃ (fun e => k2 e.symm) k3
      have N₃ : News h₀ env.locals h₃ ((K, oK') :: (I, oI) :: (C, oC) :: (D, listOf (List.toArray ys) ys.length) :: nw) :=
        allC ⟨hoK, fun e => k2 e.symm, k3⟩ (allC ⟨hoI3, fun e => a2 e.symm, a3⟩ (allC ⟨hoC, fun e => c2 e.symm, c3⟩ (allC ⟨kk3 _ _ (Ne.symm nID) nDK (N' _ (.tail _ (.head _))).1, (N' _ (.tail _ (.head _))).2⟩
          fun p hp => ⟨kk3 _ _ (off' p hp).1 (off' p hp).2.2.2 (N' p (.tail _ (.tail _ hp))).1, (N' p (.tail _ (.tail _ hp))).2⟩)))
      refine wpAny_mono (turn i v I oI C oC D K oK' h₃ _ ys nw _ hPv hI' hdK F₃ N₃ off') (fun y' s₄ h₄ => ?_) fun _ _ e => e
      refine absG fun G99 k99 => ?_
      obtain ⟨h₄, tk₄, nw₄, rfl, F₄, N₄, off₄, I₄⟩ := h₄.out
      refine k99.go ?_
      clear k99 G99
      refine append_at (hsz := by rw [List.size_toArray, hyl, PySem.sizeLine_eq]; omega) (N₄ _ (.tail _ (.tail _ (.tail _ (.head _))))).1 fun h₅ hs₅ hD₅ => ?_
      refine ⟨its.size + 1 - (i + 1), by omega, h₅, tk₄, i + 1, ys ++ [y'], _, nw₄, oK', some v, rfl, hlt, rfl, by simp [hyl], ⟨oI, hs₅.extBut _ _ nID (N₄ _ (.tail _ (.head _))).1, hrI⟩, F₄.change hs₅ (fun e => b2 e.symm) b3,
        (hCs.ns (N₄ _ (.tail _ (.tail _ (.head _)))).1).at' fun o e => hs₅.extBut _ _ (Ne.symm nDC) e, ?_, hdK, off₄, I₄⟩
      refine allC ⟨hs₅.extBut _ _ (Ne.symm nDK) (N₄ _ (.head _)).1, (N₄ _ (.head _)).2⟩ (allC ⟨hD₅.trans (congrArg some (LCg.lst_snoc ys y')), fun e => b2 e.symm, b3⟩ fun p hp => ⟨hs₅.extBut _ _ (off₄ p hp).2.2.1 (N₄ p (.tail _ (.tail _ (.tail _ (.tail _ hp))))).1, (N₄ p (.tail _ (.tail _ (.tail _ (.tail _ hp))))).2⟩)
    · refine W.done _ _ _ ⟨hst', hl'⟩ fun h₂ tk₂ hk₂ => ?_
      have kk : ∀ b o, b ≠ I → h'.get? b = some o → h₂.get? b = some o := fun b o hb e => hk₂ b o (fun q => hb (List.mem_singleton.mp q)) e
      have F₂ : Fr h₀ env.locals h₂ m := fr_mod F' kk a2 a3
      have hn₂ : h₂.Ns C m' := hn'.at' fun o e => kk _ o (Ne.symm nIC) e
      show wpAny _ A (assign (.Name y py) env (.ref D)) _ _ _
      refine wpAny_assign_Name (wpAny_storeName_local hy F₂.ns (fun h₃ hn₃ hs₃ => ?_) hp)
      have hL₀ : h₀.get? env.locals = none := Heap.get?_none_of_le F₂.above
      have F₃ : Fr h₀ env.locals h₃ (fun z => if z = y then some (.ref D) else m z) := ⟨hn₃, fun b o e => hs₃.extBut b o (fun q => by rw [q, hL₀] at e; cases e) (F₂.keep b o e), F₂.above⟩
      refine ⟨m', hn₂.sameBut hs₃ (fun e => c2 e.symm), fun h'' hs'' => fin ys nw D h'' _ hI' (F₃.change hs'' (fun e => c2 e.symm) c3) ?_ fun p hp => (off' p hp).2.2.1⟩
      have z : ∀ p ∈ (D, listOf (List.toArray ys) ys.length) :: nw, p.1 ≠ I → p.1 ≠ C → h''.get? p.1 = some p.2 ∧ p.1 ≠ env.locals ∧ h₀.get? p.1 = none := fun p hp e1 e2 =>
        ⟨hs''.extBut _ _ e2 (hs₃.extBut _ _ (N' p (.tail _ hp)).2.1 (kk _ _ e1 (N' p (.tail _ hp)).1)), (N' p (.tail _ hp)).2⟩
      exact allC (z _ (.head _) (Ne.symm nID) nDC) fun p hp => z p (.tail _ hp) (off' p hp).1 (off' p hp).2.1
  exact codeAny_compStart_list loop (W.self 0 _ _ _ hst0 loop)
end
end Mine
end

theorem Mine.rs19 {M : Model} {A : Around} {Q : Nat → Shared → Prop} {E : Value → Shared → Prop} {s : Shared} (h : wpAny M A (pure 1) Q E s) : wpAny M A (pure 1) Q E s := by first | (walk1; fail) | exact h
section
open PySem PySem.W PyProof.Rows PySem.Calls
set_option Elab.async false
set_option linter.unusedVariables false
set_option linter.unusedSimpArgs false
set_option maxRecDepth 100000
set_option maxHeartbeats 2000000
set_option pp.maxSteps 1200
set_option pp.deepTerms false
namespace Mine
set_option maxHeartbeats 6000000
local macro_rules | `(tactic| walk_at $s) => if s.getString ∈ ["CompSrc", "exec Assign cons ListComp", "call type:str"] then `(tactic| refine stop_here ?_) else if s.getString == "eval ListComp" then `(tactic| walk_at "own s2") else Lean.Macro.throwUnsupported
theorem rowsReads {h g : Heap} {L : Addr} {led : List (Addr × Obj)} (N : News g L h led) : ∀ {rs : List Addr} {ll : List (List Bool)}, BoolRows led rs ll → ∃ as, ReadsAll h (rs.map Value.ref) (ll.map fun r => PyData.list (r.map PyData.bool)) as
  | [], [], _ => ⟨[], .nil⟩
  | [], _ :: _, h => by have := h.1; simp at this
  | _ :: _, [], h => by have := h.1; simp at this
  | r :: rs, b :: ll, h => by
    obtain ⟨vs, n, hm, hb⟩ := h.2 0 r rfl
    obtain ⟨as, ha⟩ := rowsReads N (rs := rs) (ll := ll) ⟨by simpa using h.1, fun i a e => by simpa using h.2 (i + 1) a (by simpa using e)⟩
    exact ⟨_, .cons (reads_list_at (N _ hm).1 rfl rfl (by simpa using boolsReads hb)) ha⟩
def tabD (ll : List (List Bool)) : PyData := .list (ll.map fun r => PyData.list (r.map PyData.bool))
theorem show_row : ∀ r : List Bool, PyData.showableAll (r.map PyData.bool) = true ∧ PyData.hasDictAll (r.map PyData.bool) = false ∧ PyData.depthAll (r.map PyData.bool) = 0 ∧ ((PyData.shownAll (r.map PyData.bool)).map (·.length)).sum ≤ 5 * r.length ∧ (PyData.shownAll (r.map PyData.bool)).length = r.length
  | [] => ⟨rfl, rfl, rfl, Nat.le_refl _, rfl⟩
  | b :: r => by
    obtain ⟨h1, h2, h3, h4, h5⟩ := show_row r
    simp only [List.map_cons, PyData.showableAll, PyData.showable, PyData.hasDictAll, PyData.hasDict, PyData.depthAll, PyData.depth, PyData.shownAll, PyData.shown, h1, h2, h3, List.sum_cons, List.length_cons, h5]
    refine ⟨rfl, rfl, rfl, ?_, trivial⟩
    have : (if b = true then ("True" : Str) else "False").length ≤ 5 := by cases b <;> decide +kernel
    omega
theorem show_rows : ∀ ll : List (List Bool), PyData.showableAll (ll.map fun r => PyData.list (r.map PyData.bool)) = true ∧ PyData.hasDictAll (ll.map fun r => PyData.list (r.map PyData.bool)) = false ∧ PyData.depthAll (ll.map fun r => PyData.list (r.map PyData.bool)) ≤ 1 ∧
    ((∀ r ∈ ll, r.length = 6) → ((PyData.shownAll (ll.map fun r => PyData.list (r.map PyData.bool))).map (·.length)).sum ≤ 45 * ll.length) ∧ (PyData.shownAll (ll.map fun r => PyData.list (r.map PyData.bool))).length = ll.length
  | [] => ⟨rfl, rfl, Nat.zero_le _, fun _ => Nat.le_refl _, rfl⟩
  | b :: r => by
    obtain ⟨h1, h2, h3, h4, h5⟩ := show_rows r
    obtain ⟨g1, g2, g3, g4, g5⟩ := show_row b
    simp only [List.map_cons, PyData.showableAll, PyData.showable, PyData.hasDictAll, PyData.hasDict, PyData.depthAll, PyData.depth, PyData.shownAll, PyData.shown, h1, h2, g1, g2, g3, List.sum_cons, List.length_cons, h5]
    refine ⟨rfl, rfl, by omega, fun h => ?_, trivial⟩
    have e := h4 fun x hx => h x (.tail _ hx)
    have l := listText_len_le (PyData.shownAll (b.map PyData.bool))
    have lb := h b (.head _)
    rw [g5] at l
    omega
theorem show_bools (ll : List (List Bool)) : (tabD ll).showable = true := (show_rows ll).1
theorem nodict_bools (ll : List (List Bool)) : (tabD ll).hasDict = false := (show_rows ll).2.1
theorem len_bools {ll : List (List Bool)} (h : ll.length = 6) (hr : ∀ r ∈ ll, r.length = 6) : (tabD ll).shown.length ≤ sizeLine := by
  have e := (show_rows ll).2.2.2.1 hr
  have l := listText_len_le (PyData.shownAll (ll.map fun r => PyData.list (r.map PyData.bool)))
  rw [(show_rows ll).2.2.2.2] at l
  show (listText (PyData.shownAll (ll.map fun r => PyData.list (r.map PyData.bool)))).length ≤ _
  rw [PySem.sizeLine_eq]
  omega
theorem depth_bools (ll : List (List Bool)) : (tabD ll).depth ≤ 2 := by
  have := (show_rows ll).2.2.1
  show PyData.depthAll _ + 1 ≤ 2
  omega
theorem str_tab {prog : Program} {w : World} {A : Around} {E : Value → Shared → Prop} {s : Shared} {a : Addr} {ll : List (List Bool)} {as : List Addr} {Q : Value → Shared → Prop} (r : Reads s.heap (.ref a) (tabD ll) as) (h : ll.length = 6) (hr : ∀ r ∈ ll, r.length = 6) (hg : A.guards = some []) (hu : A.units + 5 < cLine)
    (hQ : ∀ h' u tk, (∀ b o, s.heap.get? b = some o → h'.get? b = some o) → Q (.str (tabD ll).shown u) { s with heap := h', toks := tk }) : wpAny (model prog w) A (call (.type "str") [.ref a]) Q E s :=
  str_of_reads r (show_rows ll).1 (fun q => absurd q (by rw [show (tabD ll).hasDict = false from (show_rows ll).2.1]; decide)) hg (by have := depth_bools ll; omega) (fun _ _ e => e) hQ (len_bools h hr)
theorem table_ok {w : World} {mean : ExcName → Option Value} {mg mb : Str → Option Value} : ∀ (g0 : Heap) (L0 fa : Addr) (cd : Value) (s : Shared) (m : Str → Option Value) (Q : Flow → Shared → Prop) (E : Value → Shared → Prop) (pl W0 al lv vl r0 r1 : Addr) (as was als rs : List Addr) (wss : List (List Str)) (wd : Int) (oV oL : Obj) (vs0 vs1 : List Value) (n0 n1 nv : Nat) (ext : List (Addr × Obj))
    (N : News g0 L0 s.heap ((L0 + 1 + 1 + 1, oV) :: (L0 + 1 + 1, oL) :: (vl, listOf #[.ref r0, .ref r1] nv) :: ext))
    (B0 : Below callerA g0 [] g0) (X0 : (Mine.top.heap_1 w.params).In g0) (T0 : Top topProg (looseW Mine.top.view_1 [Str.ofString "_safe_string", Str.ofString "_Accumulator"] ++ List.map (fun x => x.name) (recsOf Mine.top.view_1) ++ List.map (fun x => x.fst) (litsOf Mine.top.view_1) ++ List.map (fun x => x.name) (clssOf Mine.top.view_1 (looseW Mine.top.view_1 [Str.ofString "_safe_string", Str.ofString "_Accumulator"]))) mean mg mb g0) (F : Fr g0 L0 s.heap m) (dV : oV.data = .cell (some (.ref vl))) (dL : oL.data = .cell (some (.ref lv)))
    (h0 : (r0, listOf vs0.toArray n0) ∈ ext) (h1 : (r1, listOf vs1.toArray n1) ∈ ext) (i0 : IntsAre vs0 ((valN (wss.getD 0 []) wd 6).map fun (x : Nat) => (x : Int))) (i1 : IntsAre vs1 ((valN (wss.getD 1 []) wd 6).map fun (x : Nat) => (x : Int)))
    (hS : Sta ext pl W0 al lv as was als rs wss wd)
    (hret : ∀ h' tk' m', Fr g0 L0 h' m' → News g0 L0 h' ext → Q (.ret (.bool true)) { s with heap := h', toks := tk' }),
    wpAny (model PySem.Challenge.rw_wu0081_01.row.prog w) (callerA.deeper (envOfC (Str.ofString "law") lawScope L0 fa cd)) (execs (lawFrom 9) (envOfC (Str.ofString "law") lawScope L0 fa cd)) Q E s := by
  k_fill
  intro g0 L0 fa cd s m Q E pl W0 al lv vl r0 r1 as was als rs wss wd oV oL vs0 vs1 n0 n1 nv ext N B0 X0 T0 F dV dL h0 h1 i0 i1 hS hret
  dsimp only [lawFrom, lawScope, lawDef, lawS, List.drop]
  have hx0 : (#[.ref r0, .ref r1] : Array Value)[Int.toNat 0]? = some (.ref r0) := rfl
  have hx1 : (#[.ref r0, .ref r1] : Array Value)[Int.toNat 1]? = some (.ref r1) := rfl
  k_steps
  unfold Stop
  refine comp_cell (h₀ := g0) (L := L0) (m := m) (z1 := ".0") (z3 := "values") (by rfl) (by with_unfolding_all rfl) (by with_unfolding_all rfl) (by rfl) (by rfl) (by decide) (by with_unfolding_all rfl) (by rfl) (by rfl) ?_
  k_steps
  (with_reducible rename Fr g0 L0 _ _ => F3)
  (with_reducible rename News g0 L0 _ _ => N3)
  have e5 : vs0.length = 6 := by rw [i0.length, List.length_map, valN_len]
  refine ⟨⟨r0, vs0.toArray, n0, (L0 + 1 + 1 + 1, oV) :: (L0 + 1 + 1, oL) :: (vl, listOf #[.ref r0, .ref r1] nv) :: ext, fun i ys nw => ∃ ts : List Addr, ys = ts.map Value.ref ∧ Fresh (fun fr => BoolRows fr ts (((valN (wss.getD 0 []) wd 6).take i).map fun a => (valN (wss.getD 1 []) wd 6).map fun b => a == b)) ((L0 + 1 + 1 + 1, oV) :: (L0 + 1 + 1, oL) :: (vl, listOf #[.ref r0, .ref r1] nv) :: ext) ((L0 + 1 + 1 + 1, oV) :: (L0 + 1 + 1, oL) :: (vl, listOf #[.ref r0, .ref r1] nv) :: ext) nw,
    rfl, rfl, F3, N3, by rw [List.size_toArray, e5]; decide, fun i ys nw h => ?mem, ⟨[], rfl, Fresh.start ⟨rfl, fun i a h => by simp at h⟩⟩, ?turn, ?fin⟩⟩
  case mem =>
    refine absG fun G99 k99 => ?_
    obtain ⟨ts, _, hJ⟩ := h
    refine k99.go ?_
    clear k99 G99
    exact hJ.sub _ (mTl 3 h0)
  case turn =>
    intro i v I oI C oC D K oK h8 tk8 ys nw E8 hv hInv dK F8 N8 off
    refine absG fun G99 k99 => ?_
    obtain ⟨ts, rfl, hJ⟩ := hInv
    clear F3 N3
    have hi6 : i < 6 := by
      have h1 : vs0[i]? = some v := by simpa using hv
      have := (List.getElem?_eq_some_iff.mp h1).1
      omega
    obtain ⟨ta, hta⟩ := i0.get i ((valN (wss.getD 0 []) wd 6).getD i 0 : Nat) (map_getD (by rw [valN_len]; exact hi6))
    have e2 : v = .int ((valN (wss.getD 0 []) wd 6).getD i 0 : Nat) ta := by
      have h1 : vs0[i]? = some v := by simpa using hv
      rw [h1] at hta; exact Option.some.inj hta
    subst e2
    refine k99.go ?_
    clear k99 G99
    have hva := valN_le (wss.getD 0 []) wd 6 (Nat.le_refl _) i hi6
    have htk : (valN (wss.getD 0 []) wd 6).take (i + 1) = (valN (wss.getD 0 []) wd 6).take i ++ [(valN (wss.getD 0 []) wd 6).getD i 0] := by
      rw [List.take_succ_eq_append_getElem (by rw [valN_len]; exact hi6)]
      simp [List.getD_eq_getElem?_getD, valN_len, hi6]
    generalize (valN (wss.getD 0 []) wd 6).getD i 0 = va at dK hva htk
    have mV : (L0 + 1 + 1 + 1, oV) ∈ nw := hJ.sub _ (mAt 0)
    have mL : (vl, listOf #[.ref r0, .ref r1] nv) ∈ nw := hJ.sub _ (mAt 2)
    have m1 : (r1, listOf vs1.toArray n1) ∈ nw := hJ.sub _ (mTl 3 h1)
    replace N8 : News g0 L0 h8 ((L0 + 1 + 1 + 1, oV) :: (vl, listOf #[.ref r0, .ref r1] nv) :: (K, oK) :: (I, oI) :: (C, oC) :: (D, listOf (ts.map Value.ref).toArray (ts.map Value.ref).length) :: nw) := newsPlus (newsPlus N8 (mTl 4 mL)) (mTl 5 mV)
    k_steps
    unfold Stop
    (with_reducible rename Fr g0 L0 _ _ => F9)
    (with_reducible rename News g0 L0 _ _ => N9)
    have e6 : vs1.length = 6 := by rw [i1.length, List.length_map, valN_len]
    refine LCg.CompSrc.ledger (its := vs1.toArray) (k := n1) (by rfl) F9 N9 (mTl 6 m1) (by rw [List.size_toArray, e6]; decide) (fun g7 => ?_)
    refine comp_el (fun j y => y = Value.bool (va == (valN (wss.getD 1 []) wd 6).getD j 0)) (fun j v I' oI' C' oC' D2 m2 ys h8 tk9 E8 hj hv2 hC hx F8 N8 off2 ne => ?_) (fun ys hyl hye => ?_)
    · have hj6 : j < 6 := by rw [← e6]; exact hj
      refine absG fun G99 k99 => ?_
      obtain ⟨tb, htb⟩ := i1.get j ((valN (wss.getD 1 []) wd 6).getD j 0 : Nat) (map_getD (by rw [valN_len]; exact hj6))
      have e2 : v = .int ((valN (wss.getD 1 []) wd 6).getD j 0 : Nat) tb := by
        have h1 : vs1[j]? = some v := by simpa using hv2
        rw [h1] at htb; exact Option.some.inj htb
      subst e2
      refine k99.go ?_
      clear k99 G99
      have hvb := valN_le (wss.getD 1 []) wd 6 (Nat.le_refl _) j hj6
      generalize (valN (wss.getD 1 []) wd 6).getD j 0 = vb at hvb hx
      refine absG fun G99 k99 => ?_
      obtain ⟨hxn, hxb⟩ := xor_not ⟨va, by omega⟩ ⟨vb, by omega⟩
      refine k99.go ?_
      clear k99 G99
      dsimp only at hxn hxb
      k_steps
      unfold Stop
      refine' ixor_ok _ _ _ _ _ _ _ _ _ _ _ _ _ _ _ _ _ _ _ _ _ _ ?kB ?kF ?kX ?kN ?kT ?kk ?kd ?ku ⟨by omega, by omega⟩ ⟨by omega, by omega⟩ ?kr
      (case kB => k_asm); (case kF => k_asm); (case kX => assumption); (case kN => k_asm); (case kT => k_asm); (case kk => exact rfl); (case kd => ktr_room); (case ku => first | ktr_units | (have hcL9 := cLine_is; (try simp only [units_under_make, units_in1, units_deeper, Around.mark_units, units_caller]); (try dsimp only [ktrTop]); omega))
      case kr =>
      intro rx hx9 tkx F10 N10
      k_steps
      unfold Stop
      refine' not_ok _ _ _ _ _ _ _ _ _ _ _ _ _ _ _ _ _ _ _ _ ?kB ?kF ?kX ?kN ?kT ?kk ?kd ?ku ?kr
      (case kB => k_asm); (case kF => k_asm); (case kX => assumption); (case kN => k_asm); (case kT => k_asm); (case kk => exact rfl); (case kd => ktr_room); (case ku => first | ktr_units | (have hcL9 := cLine_is; (try simp only [units_under_make, units_in1, units_deeper, Around.mark_units, units_caller]); (try dsimp only [ktrTop]); omega))
      case kr =>
      intro hx10 tkx10 F11 N11
      k_steps
      exact LCg.CompEnd.intro F11 N11 _ (fun p hp => hp) off2 (.inr ⟨_, mTl 6 m1, rfl, _, rfl⟩) ⟨rfl, by rw [hxn]⟩
    have hyb : LSm.BoolsAre ys ((valN (wss.getD 1 []) wd 6).map fun b => va == b) := bools_of (g := fun b => va == b) _ _ (by rw [hyl, List.size_toArray, e6, valN_len]) hye
    k_steps
    (with_reducible rename Fr g0 L0 _ _ => F9)
    (with_reducible rename News g0 L0 _ _ => N9)
    (with_reducible rename _ ∧ _ => oD)
    rename_i Dn _ _
    have oN := off1_of oD.2.2.2.2.2.2
    refine ⟨⟨_, _, (Dn, listOf ys.toArray ys.length) :: nw, rfl, F9, newsPick [3, 4, 5, 6, 0] 7 N9, allC ⟨oD.2.2.2.1.symm, oD.2.2.2.2.1.symm, oD.2.2.2.2.2.1.symm, oD.2.2.1.symm⟩ off, ts ++ [Dn], by simp, ?_⟩⟩
    rw [htk, List.map_append]
    exact hJ.cons (fun fr hB => bools_snoc hB hyb) fun x hx => oN x (hJ.sub x hx)
  case fin =>
    intro ys nw D h8 tk8 hInv F8 N8 off
    refine absG fun G99 k99 => ?_
    obtain ⟨ts, rfl, hJ⟩ := hInv
    clear F3 N3
    obtain ⟨fr, rfl, hB, hD⟩ := hJ
    have hw0 : (wss.getD 0 []).length = 5 := (hS.ok (wss.getD 0 []) (by rw [List.getD_eq_getElem?_getD, List.getElem?_eq_getElem (by rw [← hS.sp.1, hS.lp]; decide)]; exact List.getElem_mem _)).1
    have hw1 : (wss.getD 1 []).length = 5 := (hS.ok (wss.getD 1 []) (by rw [List.getD_eq_getElem?_getD, List.getElem?_eq_getElem (by rw [← hS.sp.1, hS.lp]; decide)]; exact List.getElem_mem _)).1
    rw [List.size_toArray, e5, List.take_of_length_le (by rw [valN_len]; decide), ← lost_table hw0 hw1] at hB
    obtain ⟨nl, hlm⟩ := hS.hl
    refine k99.go ?_
    clear k99 G99
    have hL := hS.sl
    replace N8 : News g0 L0 h8 ((D, listOf (ts.map Value.ref).toArray (ts.map Value.ref).length) :: (L0 + 1 + 1, oL) :: (fr ++ ((L0 + 1 + 1 + 1, oV) :: (L0 + 1 + 1, oL) :: (vl, listOf #[.ref r0, .ref r1] nv) :: ext))) := newsPick [1, 0] 2 (newsPlus N8 (.tail _ (List.mem_append_right _ (mAt 1))))
    have hlm2 := (.tail _ (.tail _ (List.mem_append_right _ (mTl 3 hlm))) : (lv, listOf (rs.map Value.ref).toArray nl) ∈ (D, listOf (ts.map Value.ref).toArray (ts.map Value.ref).length) :: (L0 + 1 + 1, oL) :: (fr ++ ((L0 + 1 + 1 + 1, oV) :: (L0 + 1 + 1, oL) :: (vl, listOf #[.ref r0, .ref r1] nv) :: ext)))
    have hB2 := hB.up (b := (D, listOf (ts.map Value.ref).toArray (ts.map Value.ref).length) :: (L0 + 1 + 1, oL) :: (fr ++ ((L0 + 1 + 1 + 1, oV) :: (L0 + 1 + 1, oL) :: (vl, listOf #[.ref r0, .ref r1] nv) :: ext))) fun p hp => .tail _ (.tail _ (List.mem_append_left _ hp))
    have hL2 := hL.up (b := (D, listOf (ts.map Value.ref).toArray (ts.map Value.ref).length) :: (L0 + 1 + 1, oL) :: (fr ++ ((L0 + 1 + 1 + 1, oV) :: (L0 + 1 + 1, oL) :: (vl, listOf #[.ref r0, .ref r1] nv) :: ext))) fun p hp => .tail _ (.tail _ (List.mem_append_right _ (mTl 3 hp)))
    have hxt : ∀ p ∈ ext, p ∈ (D, listOf (ts.map Value.ref).toArray (ts.map Value.ref).length) :: (L0 + 1 + 1, oL) :: (fr ++ ((L0 + 1 + 1 + 1, oV) :: (L0 + 1 + 1, oL) :: (vl, listOf #[.ref r0, .ref r1] nv) :: ext)) := fun p hp => .tail _ (.tail _ (List.mem_append_right _ (mTl 3 hp)))
    generalize fr ++ ((L0 + 1 + 1 + 1, oV) :: (L0 + 1 + 1, oL) :: (vl, listOf #[.ref r0, .ref r1] nv) :: ext) = nw at N8 hlm2 hB2 hL2 hxt
    unfold lostT at hL2
    have hl6 := lostN_len (wayN (wss.getD 0 []) wd) (wayN (wss.getD 1 []) wd) 6
    have hr6 := lostN_row (wayN (wss.getD 0 []) wd) (wayN (wss.getD 1 []) wd) 6
    generalize lostN (wayN (wss.getD 0 []) wd) (wayN (wss.getD 1 []) wd) 6 = ll at hB2 hL2 hl6 hr6
    k_steps
    unfold Stop
    (with_reducible rename Fr g0 L0 _ _ => F9)
    (with_reducible rename News g0 L0 _ _ => N9)
    refine absG fun G99 k99 => ?_
    obtain ⟨as9, hR9⟩ := rowsReads N9 hB2
    refine k99.go ?_
    clear k99 G99
    refine str_tab (ll := ll) (reads_list_at (N9 _ (.head _)).1 rfl rfl (by simpa using hR9)) hl6 hr6 rfl (by ktr_units) (fun h9 u9 tk9 kk => ?_)
    have F10 := fr_k F9 kk
    have N10 := news_k N9 kk
    clear F9 N9 hR9
    k_steps
    unfold Stop
    (with_reducible rename Fr g0 L0 _ _ => F11)
    (with_reducible rename News g0 L0 _ _ => N11)
    refine absG fun G99 k99 => ?_
    obtain ⟨as10, hR10⟩ := rowsReads N11 hL2
    refine k99.go ?_
    clear k99 G99
    refine str_tab (ll := ll) (reads_list_at (N11 _ hlm2).1 rfl rfl (by simpa using hR10)) hl6 hr6 rfl (by ktr_units) (fun h11 u11 tk11 kk2 => ?_)
    have F12 := fr_k F11 kk2
    have N12 := news_k N11 kk2
    generalize (tabD ll).shown = tx
    k_steps
    rw [show (tx == tx) = true from beq_self_eq_true tx]
    exact hret h11 tk11 _ F12 fun p hp => N12 p (hxt p hp)
end Mine
end

theorem Mine.rs20 {M : Model} {A : Around} {Q : Nat → Shared → Prop} {E : Value → Shared → Prop} {s : Shared} (h : wpAny M A (pure 1) Q E s) : wpAny M A (pure 1) Q E s := by first | (walk1; fail) | exact h
section
open PySem PySem.W PyProof.Rows PySem.Calls
set_option Elab.async false
set_option linter.unusedVariables false
set_option linter.unusedSimpArgs false
set_option maxRecDepth 100000
set_option maxHeartbeats 2000000
set_option pp.maxSteps 1200
set_option pp.deepTerms false
namespace Mine
set_option maxHeartbeats 6000000
local macro_rules | `(tactic| walk_at $s) => if s.getString ∈ ["execs cons Expr cons", "compareOp NotEq ref ref"] then `(tactic| refine stop_here ?_) else Lean.Macro.throwUnsupported
theorem rowS_ok : ∀ {ws : List Str}, (∀ x ∈ ws, PyData.strOk x = true) → PyData.strOk (rowS ws) = true
  | [], _ => by decide +kernel
  | x :: r, h => by
    have e : (rowS (x :: r)).cps = (PySem.Str.ofString " ").cps ++ x.cps ++ (rowS r).cps := rfl
    have e0 : (PySem.Str.ofString " ").cps.all (fun y => decide (y < 0x110000)) = true := by decide +kernel
    have e1 : x.cps.all (fun y => decide (y < 0x110000)) = true := h x (.head _)
    have e2 : (rowS r).cps.all (fun y => decide (y < 0x110000)) = true := rowS_ok fun y hy => h y (.tail _ hy)
    unfold PyData.strOk
    rw [e, Array.all_append, Array.all_append, e0, e1, e2]; rfl
theorem rowsB_ok {words : List Str} {ps : List Nat} (h : ∀ x ∈ words, PyData.strOk x = true) : ∀ x ∈ rowsB words ps, PyData.strOk x = true := fun x hx => by
  obtain ⟨t, _, rfl⟩ := List.mem_map.mp hx
  exact rowS_ok fun y hy => h y (List.mem_of_mem_take (List.mem_of_mem_drop hy))
theorem lay_ints : ∀ ps : List Int, PyData.canLayAll0 (ps.map PyData.int) = true ∧ PyData.depthAll (ps.map PyData.int) = 0
  | [] => ⟨rfl, rfl⟩
  | x :: r => by
    obtain ⟨h1, h2⟩ := lay_ints r
    rw [List.map_cons, PyData.canLayAll0, PyData.depthAll, h1, h2]
    exact ⟨rfl, rfl⟩
theorem lay_strs : ∀ ps : List Str, (∀ x ∈ ps, PyData.strOk x = true) → PyData.canLayAll0 (ps.map PyData.str) = true ∧ PyData.depthAll (ps.map PyData.str) = 0
  | [], _ => ⟨rfl, rfl⟩
  | x :: r, h => by
    obtain ⟨h1, h2⟩ := lay_strs r fun y hy => h y (.tail _ hy)
    rw [List.map_cons, PyData.canLayAll0, PyData.depthAll, h1, h2, PyData.canLay0, h x (.head _)]
    exact ⟨rfl, rfl⟩
theorem shaped_pair2 {ps : List Int} {ls : List Str} (h : ∀ x ∈ ls, PyData.strOk x = true) : SeqAt.shaped (.tuple [.list (ps.map PyData.int), .list (ls.map PyData.str)]) = true := by
  obtain ⟨a, b⟩ := lay_ints ps
  obtain ⟨c, d⟩ := lay_strs ls h
  simp [SeqAt.shaped, PyData.canLay0, PyData.canLayAll0, PyData.depth, PyData.depthAll, a, b, c, d]
theorem thrown_ne {w : World} {mean : ExcName → Option Value} {mg mb : Str → Option Value} : ∀ (g0 : Heap) (L0 fa : Addr) (cd : Value) (s : Shared) (m : Str → Option Value) (Q : Flow → Shared → Prop) (E : Value → Shared → Prop) (pl W0 al lv vl : Addr) (as was als rs : List Addr) (wss : List (List Str)) (wd : Int) (tw tk : Tok) (k : Nat) (ow oL oV oK : Obj) (p1 p2 : Array Value) (vals : List Value) (nv : Nat) (ext : List (Addr × Obj)) (rl : Addr) (rv : List Value) (nr : Nat) (N : News g0 L0 s.heap ((rl, listOf rv.toArray nr) :: (vl, listOf vals.toArray nv) :: (L0 + 1 + 1 + 1 + 1, oK) :: (L0 + 1 + 1 + 1, oV) :: (L0 + 1 + 1, oL) :: (L0 + 1, ow) :: (148, tabObj p1) :: (155, tabObj p2) :: ext)) (B0 : Below callerA g0 [] g0) (X0 : (Mine.top.heap_1 w.params).In g0) (T0 : Top topProg (looseW Mine.top.view_1 [Str.ofString "_safe_string", Str.ofString "_Accumulator"] ++ List.map (fun x => x.name) (recsOf Mine.top.view_1) ++ List.map (fun x => x.fst) (litsOf Mine.top.view_1) ++ List.map (fun x => x.name) (clssOf Mine.top.view_1 (looseW Mine.top.view_1 [Str.ofString "_safe_string", Str.ofString "_Accumulator"]))) mean mg mb g0) (F : Fr g0 L0 s.heap m) (hm1 : m "piles" = some (.ref pl)) (hm2 : m "ways" = some (.ref W0)) (hm3 : m "alone" = some (.ref al)) (dw : ow.data = .cell (some (.int wd tw))) (dL : oL.data = .cell (some (.ref lv))) (dV : oV.data = .cell (some (.ref vl))) (dK : oK.data = .cell (some (.int (k : Nat) tk))) (hwd : 0 ≤ wd ∧ wd ≤ 9) (hk2 : k < 2) (hS : Sta ext pl W0 al lv as was als rs wss wd) (hO : Off [vl, L0 + 1 + 1 + 1 + 1, L0 + 1 + 1 + 1, L0 + 1 + 1, L0 + 1, 148, 155] ext) (hlo : (148 : Nat) < L0 ∧ (155 : Nat) < L0 ∧ @LT.lt Nat _ (L0 + 1 + 1 + 1 + 1) vl) (hmr : m "rows" = some (.ref rl)) (hrv : StrsAre rv (rowsB (wss.getD k []) (aloneN (wss.getD k []) wd))) (hrl : ∀ p ∈ (vl, listOf vals.toArray nv) :: (L0 + 1 + 1 + 1 + 1, oK) :: (L0 + 1 + 1 + 1, oV) :: (L0 + 1 + 1, oL) :: (L0 + 1, ow) :: (148, tabObj p1) :: (155, tabObj p2) :: ext, p.1 < rl)
    (hG : AllBare s.gens) (hT1 : TriplesOk p1.toList) (hT2 : TriplesOk p2.toList)
    (hret : ∀ h' tk' m' gs' q1 q2, Fr g0 L0 h' m' → News g0 L0 h' ((vl, listOf vals.toArray nv) :: (L0 + 1 + 1 + 1 + 1, oK) :: (L0 + 1 + 1 + 1, oV) :: (L0 + 1 + 1, oL) :: (L0 + 1, ow) :: (148, tabObj q1) :: (155, tabObj q2) :: ext) → m' "piles" = some (.ref pl) → m' "ways" = some (.ref W0) → m' "alone" = some (.ref al) →
      AllBare gs' → TriplesOk q1.toList → TriplesOk q2.toList → wpAny (model PySem.Challenge.rw_wu0081_01.row.prog w) (callerA.deeper (envOfC (Str.ofString "law") lawScope L0 fa cd)) (execs (turnFrom 3) (envOfC (Str.ofString "law") lawScope L0 fa cd)) Q E { s with heap := h', gens := gs', toks := tk' }),
    wpAny (model PySem.Challenge.rw_wu0081_01.row.prog w) (callerA.deeper (envOfC (Str.ofString "law") lawScope L0 fa cd)) (execs (turnFrom 2) (envOfC (Str.ofString "law") lawScope L0 fa cd)) Q E s := by
  k_fill
  intro g0 L0 fa cd s m Q E pl W0 al lv vl as was als rs wss wd tw tk k ow oL oV oK p1 p2 vals nv ext rl rv nr N B0 X0 T0 F hm1 hm2 hm3 dw dL dV dK hwd hk2 hS hO hlo hmr hrv hrl hG hT1 hT2 hret
  dsimp only [turnFrom, lawFrom, lawScope, lawDef, lawS, List.drop]
  rw [known4 hmr hm1 hm2 hm3] at F
  refine absG fun G99 k99 => ?_
  obtain ⟨np, hpl⟩ := hS.hp
  obtain ⟨ck, hck⟩ : ∃ ck, as[k]? = some ck := ⟨_, List.getElem?_eq_getElem (by rw [hS.lp]; exact hk2)⟩
  obtain ⟨sv, nsv, hsm, hss⟩ := hS.sp.2 k ck hck
  have hwl : wss.length = 2 := hS.sp.1.symm.trans hS.lp
  obtain ⟨hl5, hd15⟩ := hS.ok (wss.getD k []) (by rw [List.getD_eq_getElem?_getD, List.getElem?_eq_getElem (by omega)]; exact List.getElem_mem _)
  have hx2 : (as.map Value.ref).toArray[((k : Nat) : Int).toNat]? = some (.ref ck) := by simp [hck]
  obtain ⟨na, hal⟩ := hS.ha
  obtain ⟨ak, hak⟩ : ∃ ak, als[k]? = some ak := ⟨_, List.getElem?_eq_getElem (by rw [hS.la]; exact hk2)⟩
  obtain ⟨av, nak, hakm, hai⟩ := hS.sa k ak hak
  refine k99.go ?_
  clear k99 G99
  have hx1 : (als.map Value.ref).toArray[((k : Nat) : Int).toNat]? = some (.ref ak) := by simp [hak]
  k_steps
  unfold Stop
  (with_reducible rename Fr g0 L0 _ _ => F3)
  (with_reducible rename News g0 L0 _ _ => N3)
  have f1 : @LT.lt Nat _ 148 rl := hrl (148, tabObj p1) (mAt 5)
  have f2 : @LT.lt Nat _ 155 rl := hrl (155, tabObj p2) (mAt 6)
  have f3 := hlo.1
  have f4 := hlo.2.1
  have f5 : @LT.lt Nat _ (L0 + 1 + 1 + 1 + 1) vl := hlo.2.2
  have hext : ∀ p ∈ ext, p.1 ≠ 148 ∧ p.1 ≠ 155 := fun p hp => ⟨hO p hp 148 (mAt 5), hO p hp 155 (mAt 6)⟩
  have hck1 := hext _ hsm
  replace N3 : News g0 L0 _ ((148, tabObj p1) :: (155, tabObj p2) :: (ck, listOf sv.toArray nsv) :: (rl, listOf rv.toArray nr) :: (vl, listOf vals.toArray nv) :: (L0 + 1 + 1 + 1 + 1, oK) :: (L0 + 1 + 1 + 1, oV) :: (L0 + 1 + 1, oL) :: (L0 + 1, ow) :: ext) := newsPick [7, 8, 0, 1, 2, 3, 4, 5, 6] 9 (newsPlus N3 (mTl 8 hsm))
  refine' thrown_ok _ _ _ _ _ _ _ _ _ _ _ _ _ _ _ _ _ _ ck sv (wss.getD k []) nsv wd tw p1 p2 ((rl, listOf rv.toArray nr) :: (vl, listOf vals.toArray nv) :: (L0 + 1 + 1 + 1 + 1, oK) :: (L0 + 1 + 1 + 1, oV) :: (L0 + 1 + 1, oL) :: (L0 + 1, ow) :: ext) rfl ?kB ?kF ?kX ?kN ?kT ?kk ?kd ?ku hwd hss hl5 (fun x hx => (due15_ok x (hd15 x hx)).1) (fun x hx => (due15_ok x (hd15 x hx)).2) hG hT1 hT2 ?hr ⟨Ne.symm hck1.1, Ne.symm hck1.2⟩ ?kr
  (case kB => k_asm); (case kF => k_asm); (case kX => assumption); (case kN => k_asm); (case kT => k_asm); (case kk => exact rfl); (case kd => ktr_room); (case ku => first | ktr_units | (have hcL9 := cLine_is; (try simp only [units_under_make, units_in1, units_deeper, Around.mark_units, units_caller]); (try dsimp only [ktrTop]); omega))
  case hr =>
    refine allC ⟨Nat.ne_of_gt f1, Nat.ne_of_gt f2⟩ (allC ⟨?_, ?_⟩ (allC ⟨?_, ?_⟩ (allC ⟨?_, ?_⟩ (allC ⟨?_, ?_⟩ (allC ⟨?_, ?_⟩ hext)))))
    all_goals (refine Nat.ne_of_gt ?_; (try dsimp only); omega)
  case kr =>
  intro tp pl2 ln ps np2 ls nl q1 q2 h4 tk4 g4 F4 N4 hps hls G4 U1 U2 l1 l2 l3
  refine absG fun G99 k99 => ?_
  obtain ⟨e1, e2, _⟩ := pile_facts (wd := wd) hl5
  refine k99.go ?_
  clear k99 G99
  rw [e1] at hps
  rw [e2] at hls
  have hok : ∀ x ∈ rowsB (wss.getD k []) (aloneN (wss.getD k []) wd), PyData.strOk x = true := rowsB_ok fun x hx => (due15_ok x (hd15 x hx)).2
  k_steps
  unfold Stop
  (with_reducible rename Fr g0 L0 _ _ => F5)
  (with_reducible rename News g0 L0 _ _ => N5)
  refine ne_dataH (reads_tuple_at (N5 _ (mAt 1)).1 rfl rfl (.cons (reads_list_at (N5 _ (mAt 2)).1 rfl rfl (ints_readAll _ hps)) (.cons (reads_list_at (N5 _ (mAt 3)).1 rfl rfl (strs_readAll _ hls)) .nil))) (reads_tuple_at (N5 _ (mAt 0)).1 rfl rfl (.cons (reads_list_at (N5 _ (mTl 13 hakm)).1 rfl rfl (ints_readAll _ hai)) (.cons (reads_list_at (N5 _ (mAt 7)).1 rfl rfl (strs_readAll _ (by simpa using hrv))) .nil))) (shaped_pair2 hok) (shaped_pair2 hok) (by ktr_units) ?_
  rw [show aloneI wss wd k = (aloneN (wss.getD k []) wd).map fun (x : Nat) => (x : Int) from rfl, SeqAt.eqv_refl _ (SeqAt.canLay_of_shaped (shaped_pair2 hok))]
  k_steps
  unfold Stop
  (with_reducible rename Fr g0 L0 _ _ => F6)
  (with_reducible rename News g0 L0 _ _ => N6)
  exact hret _ _ _ _ q1 q2 F6 (newsPick [8, 9, 10, 11, 12, 4, 5] 13 N6) rfl rfl rfl G4 U1 U2
end Mine
end

theorem Mine.rs21 {M : Model} {A : Around} {Q : Nat → Shared → Prop} {E : Value → Shared → Prop} {s : Shared} (h : wpAny M A (pure 1) Q E s) : wpAny M A (pure 1) Q E s := by first | (walk1; fail) | exact h
section
open PySem PySem.W PyProof.Rows PySem.Calls
set_option Elab.async false
set_option linter.unusedVariables false
set_option linter.unusedSimpArgs false
set_option maxRecDepth 100000
set_option maxHeartbeats 2000000
set_option pp.maxSteps 1200
set_option pp.deepTerms false
namespace Mine
set_option maxHeartbeats 6000000
local macro_rules | `(tactic| walk_at $s) => if s.getString == "execs cons If cons" then `(tactic| refine stop_here ?_) else Lean.Macro.throwUnsupported
theorem values_app {w : World} {mean : ExcName → Option Value} {mg mb : Str → Option Value} : ∀ (g0 : Heap) (L0 fa : Addr) (cd : Value) (s : Shared) (m : Str → Option Value) (Q : Flow → Shared → Prop) (E : Value → Shared → Prop) (pl W0 al lv vl : Addr) (as was als rs : List Addr) (wss : List (List Str)) (wd : Int) (tw tk : Tok) (k : Nat) (ow oL oV oK : Obj) (p1 p2 : Array Value) (vals : List Value) (nv : Nat) (ext : List (Addr × Obj)) (N : News g0 L0 s.heap ((vl, listOf vals.toArray nv) :: (L0 + 1 + 1 + 1 + 1, oK) :: (L0 + 1 + 1 + 1, oV) :: (L0 + 1 + 1, oL) :: (L0 + 1, ow) :: (148, tabObj p1) :: (155, tabObj p2) :: ext)) (B0 : Below callerA g0 [] g0) (X0 : (Mine.top.heap_1 w.params).In g0) (T0 : Top topProg (looseW Mine.top.view_1 [Str.ofString "_safe_string", Str.ofString "_Accumulator"] ++ List.map (fun x => x.name) (recsOf Mine.top.view_1) ++ List.map (fun x => x.fst) (litsOf Mine.top.view_1) ++ List.map (fun x => x.name) (clssOf Mine.top.view_1 (looseW Mine.top.view_1 [Str.ofString "_safe_string", Str.ofString "_Accumulator"]))) mean mg mb g0) (F : Fr g0 L0 s.heap m) (hm1 : m "piles" = some (.ref pl)) (hm2 : m "ways" = some (.ref W0)) (hm3 : m "alone" = some (.ref al)) (dw : ow.data = .cell (some (.int wd tw))) (dL : oL.data = .cell (some (.ref lv))) (dV : oV.data = .cell (some (.ref vl))) (dK : oK.data = .cell (some (.int (k : Nat) tk))) (hwd : 0 ≤ wd ∧ wd ≤ 9) (hk2 : k < 2) (hS : Sta ext pl W0 al lv as was als rs wss wd) (hO : Off [vl, L0 + 1 + 1 + 1 + 1, L0 + 1 + 1 + 1, L0 + 1 + 1, L0 + 1, 148, 155] ext) (hlo : (148 : Nat) < L0 ∧ (155 : Nat) < L0 ∧ @LT.lt Nat _ (L0 + 1 + 1 + 1 + 1) vl) (hvk : vals.length = k) (hG : AllBare s.gens) (hT1 : TriplesOk p1.toList)
    (hret : ∀ h' tk' m' gs' q1 r (vs : List Value) n nv', Fr g0 L0 h' m' → News g0 L0 h' ((vl, listOf (vals ++ [Value.ref r]).toArray nv') :: (L0 + 1 + 1 + 1 + 1, oK) :: (L0 + 1 + 1 + 1, oV) :: (L0 + 1 + 1, oL) :: (L0 + 1, ow) :: (148, tabObj q1) :: (155, tabObj p2) :: (r, listOf vs.toArray n) :: ext) → m' "piles" = some (.ref pl) → m' "ways" = some (.ref W0) → m' "alone" = some (.ref al) →
      AllBare gs' → TriplesOk q1.toList → IntsAre vs ((valN (wss.getD k []) wd 6).map fun (x : Nat) => (x : Int)) → (∀ p ∈ (vl, listOf vals.toArray nv) :: (L0 + 1 + 1 + 1 + 1, oK) :: (L0 + 1 + 1 + 1, oV) :: (L0 + 1 + 1, oL) :: (L0 + 1, ow) :: (148, tabObj p1) :: (155, tabObj p2) :: ext, p.1 ≠ r) → wpAny (model PySem.Challenge.rw_wu0081_01.row.prog w) (callerA.deeper (envOfC (Str.ofString "law") lawScope L0 fa cd)) (execs (turnFrom 4) (envOfC (Str.ofString "law") lawScope L0 fa cd)) Q E { s with heap := h', gens := gs', toks := tk' }),
    wpAny (model PySem.Challenge.rw_wu0081_01.row.prog w) (callerA.deeper (envOfC (Str.ofString "law") lawScope L0 fa cd)) (execs (turnFrom 3) (envOfC (Str.ofString "law") lawScope L0 fa cd)) Q E s := by
  k_fill
  intro g0 L0 fa cd s m Q E pl W0 al lv vl as was als rs wss wd tw tk k ow oL oV oK p1 p2 vals nv ext N B0 X0 T0 F hm1 hm2 hm3 dw dL dV dK hwd hk2 hS hO hlo hvk hG hT1 hret
  dsimp only [turnFrom, lawFrom, lawScope, lawDef, lawS, List.drop]
  rw [known3w hm1 hm2 hm3] at F
  refine absG fun G99 k99 => ?_
  obtain ⟨np, hpl⟩ := hS.hp
  obtain ⟨ck, hck⟩ : ∃ ck, as[k]? = some ck := ⟨_, List.getElem?_eq_getElem (by rw [hS.lp]; exact hk2)⟩
  obtain ⟨sv, nsv, hsm, hss⟩ := hS.sp.2 k ck hck
  have hwl : wss.length = 2 := hS.sp.1.symm.trans hS.lp
  obtain ⟨hl5, hd15⟩ := hS.ok (wss.getD k []) (by rw [List.getD_eq_getElem?_getD, List.getElem?_eq_getElem (by omega)]; exact List.getElem_mem _)
  refine k99.go ?_
  clear k99 G99
  have hx2 : (as.map Value.ref).toArray[((k : Nat) : Int).toNat]? = some (.ref ck) := by simp [hck]
  k_steps
  unfold Stop
  (with_reducible rename Fr g0 L0 _ _ => F3)
  (with_reducible rename News g0 L0 _ _ => N3)
  have f3 := hlo.1
  have f5 : @LT.lt Nat _ (L0 + 1 + 1 + 1 + 1) vl := hlo.2.2
  have hext : ∀ p ∈ ext, p.1 ≠ 148 := fun p hp => hO p hp 148 (mAt 5)
  replace N3 : News g0 L0 _ ((148, tabObj p1) :: (ck, listOf sv.toArray nsv) :: (155, tabObj p2) :: (vl, listOf vals.toArray nv) :: (L0 + 1 + 1 + 1 + 1, oK) :: (L0 + 1 + 1 + 1, oV) :: (L0 + 1 + 1, oL) :: (L0 + 1, ow) :: ext) := newsPick [6, 0, 7, 1, 2, 3, 4, 5] 8 (newsPlus N3 (mTl 7 hsm))
  refine' vals_ok _ _ _ _ _ _ _ _ _ _ _ _ _ _ _ _ _ _ ck sv (wss.getD k []) nsv wd tw p1 ((155, tabObj p2) :: (vl, listOf vals.toArray nv) :: (L0 + 1 + 1 + 1 + 1, oK) :: (L0 + 1 + 1 + 1, oV) :: (L0 + 1 + 1, oL) :: (L0 + 1, ow) :: ext) rfl ?kB ?kF ?kX ?kN ?kT ?kk ?kd ?ku hwd hss hl5 (fun x hx => (due15_ok x (hd15 x hx)).1) hG hT1 ?hr (Ne.symm (hext _ hsm)) ?kr
  (case kB => k_asm); (case kF => k_asm); (case kX => assumption); (case kN => k_asm); (case kT => k_asm); (case kk => exact rfl); (case kd => ktr_room); (case ku => first | ktr_units | (have hcL9 := cLine_is; (try simp only [units_under_make, units_in1, units_deeper, Around.mark_units, units_caller]); (try dsimp only [ktrTop]); omega))
  case hr =>
    refine allC (show @Ne Nat 155 148 by decide) (allC ?_ (allC ?_ (allC ?_ (allC ?_ (allC ?_ hext)))))
    all_goals (refine Nat.ne_of_gt ?_; (try dsimp only); omega)
  case kr =>
  intro r vs n q1 h4 tk4 g4 F4 N4 hI G4 U1 hne
  refine absG fun G99 k99 => ?_
  obtain ⟨vs, rfl⟩ : ∃ l : List Value, vs = l.toArray := ⟨vs.toList, by simp⟩
  refine k99.go ?_
  clear k99 G99
  rw [List.toList_toArray] at hI
  have zr : @Ne Nat vl r := hne _ (mAt 3)
  have zc : @Ne Nat ck vl := hO _ hsm vl (mAt 0)
  have nvl := hO.ne (c := vl) (mAt 0)
  k_steps
  unfold Stop
  (with_reducible rename Fr g0 L0 _ _ => F5)
  (with_reducible rename News g0 L0 _ _ => N5)
  rw [show vals.toArray.push (Value.ref r) = (vals ++ [Value.ref r]).toArray by simp] at N5
  exact hret _ _ _ _ q1 r vs n (nv + 1) F5 (newsPick [4, 5, 6, 7, 8, 1, 3, 0] 9 N5) rfl rfl rfl G4 U1 hI (pick [3, 4, 5, 6, 7, 0, 2] 8 hne)
end Mine
end

theorem Mine.rs22 {M : Model} {A : Around} {Q : Nat → Shared → Prop} {E : Value → Shared → Prop} {s : Shared} (h : wpAny M A (pure 1) Q E s) : wpAny M A (pure 1) Q E s := by first | (walk1; fail) | exact h
section
open PySem PySem.W PyProof.Rows PySem.Calls
set_option Elab.async false
set_option linter.unusedVariables false
set_option linter.unusedSimpArgs false
set_option maxRecDepth 100000
set_option maxHeartbeats 2000000
set_option pp.maxSteps 1200
set_option pp.deepTerms false
namespace Mine
set_option maxHeartbeats 6000000
local macro_rules | `(tactic| walk_at $s) => if s.getString == "execs cons Assign cons" then `(tactic| refine stop_here ?_) else Lean.Macro.throwUnsupported
def ValsAt (led : List (Addr × Obj)) (vals : List Value) (wss : List (List Str)) (wd : Int) : Prop := ∀ i v, vals[i]? = some v → ∃ r vs n, v = .ref r ∧ (r, listOf (List.toArray vs) n) ∈ led ∧ IntsAre vs ((valN (wss.getD i []) wd 6).map fun (x : Nat) => (x : Int))
theorem loop_ok {w : World} {mean : ExcName → Option Value} {mg mb : Str → Option Value} : ∀ (g0 : Heap) (L0 fa : Addr) (cd : Value) (s : Shared) (m : Str → Option Value) (Q : Flow → Shared → Prop) (E : Value → Shared → Prop) (pl W0 al lv vl : Addr) (as was als rs : List Addr) (wss : List (List Str)) (wd : Int) (tw : Tok) (ow oL oV c4 : Obj) (v4 : Option Value) (p1 p2 : Array Value) (ext : List (Addr × Obj))
    (N : News g0 L0 s.heap ((vl, listOf #[] 0) :: (L0 + 1 + 1 + 1 + 1, c4) :: (L0 + 1 + 1 + 1, oV) :: (L0 + 1 + 1, oL) :: (L0 + 1, ow) :: (148, tabObj p1) :: (155, tabObj p2) :: ext))
    (B0 : Below callerA g0 [] g0) (X0 : (Mine.top.heap_1 w.params).In g0) (T0 : Top topProg (looseW Mine.top.view_1 [Str.ofString "_safe_string", Str.ofString "_Accumulator"] ++ List.map (fun x => x.name) (recsOf Mine.top.view_1) ++ List.map (fun x => x.fst) (litsOf Mine.top.view_1) ++ List.map (fun x => x.name) (clssOf Mine.top.view_1 (looseW Mine.top.view_1 [Str.ofString "_safe_string", Str.ofString "_Accumulator"]))) mean mg mb g0) (F : Fr g0 L0 s.heap m) (hm1 : m "piles" = some (.ref pl)) (hm2 : m "ways" = some (.ref W0)) (hm3 : m "alone" = some (.ref al)) (dw : ow.data = .cell (some (.int wd tw))) (dL : oL.data = .cell (some (.ref lv))) (dV : oV.data = .cell (some (.ref vl))) (d4 : c4.data = .cell v4) (hwd : 0 ≤ wd ∧ wd ≤ 9) (hS : Sta ext pl W0 al lv as was als rs wss wd) (hO : Off [vl, L0 + 1 + 1 + 1 + 1, L0 + 1 + 1 + 1, L0 + 1 + 1, L0 + 1, 148, 155] ext) (hlo : (148 : Nat) < L0 ∧ (155 : Nat) < L0 ∧ @LT.lt Nat _ (L0 + 1 + 1 + 1 + 1) vl)
    (hG : AllBare s.gens) (hT1 : TriplesOk p1.toList) (hT2 : TriplesOk p2.toList)
    (hret : ∀ h' tk' m' gs' q1 q2 ex', Fr g0 L0 h' m' → News g0 L0 h' ((148, tabObj q1) :: (155, tabObj q2) :: ex') → (∀ p ∈ ext, p ∈ ex') → AllBare gs' → TriplesOk q1.toList → TriplesOk q2.toList → Q (.ret (.bool true)) { s with heap := h', gens := gs', toks := tk' }),
    wpAny (model PySem.Challenge.rw_wu0081_01.row.prog w) (callerA.deeper (envOfC (Str.ofString "law") lawScope L0 fa cd)) (execs (lawFrom 8) (envOfC (Str.ofString "law") lawScope L0 fa cd)) Q E s := by
  k_fill
  intro g0 L0 fa cd s m Q E pl W0 al lv vl as was als rs wss wd tw ow oL oV c4 v4 p1 p2 ext N B0 X0 T0 F hm1 hm2 hm3 dw dL dV d4 hwd hS hO hlo hG hT1 hT2 hret
  dsimp only [lawFrom, lawScope, lawDef, lawS, List.drop]
  rw [known3w hm1 hm2 hm3] at F
  k_steps
  unfold Stop
  (with_reducible rename IsRange _ _ _ _ _ _ _ _ => hR)
  (with_reducible rename Fr g0 L0 _ _ => F3)
  (with_reducible rename News g0 L0 _ _ => N3)
  refine pyIter_range_K (a := 0) (b := 2) (c := 1) (small_one (by decide) (by decide) (by decide) (by decide)) F3 N3 hR (fun I h4 F4 N4 nI lI zI itI => ?_)
  clear F3 N3 hR
  refine for_K (Walks.range rfl I 0 1 2) (fun i h st => ⟨_, st⟩) (fun k m' nw' g9 => m' "piles" = some (.ref pl) ∧ m' "ways" = some (.ref W0) ∧ m' "alone" = some (.ref al) ∧ ∃ (vals : List Value) (nv : Nat) (c4 : Obj) (v4 : Option Value) (q1 q2 : Array Value) (ex' : List (Addr × Obj)),
      nw' = (vl, listOf vals.toArray nv) :: (L0 + 1 + 1 + 1 + 1, c4) :: (L0 + 1 + 1 + 1, oV) :: (L0 + 1 + 1, oL) :: (L0 + 1, ow) :: (148, tabObj q1) :: (155, tabObj q2) :: ex' ∧ c4.data = .cell v4 ∧ vals.length = k ∧ AllBare g9 ∧ TriplesOk q1.toList ∧ TriplesOk q2.toList ∧ (∀ p ∈ ext, p ∈ ex') ∧ Off [vl, L0 + 1 + 1 + 1 + 1, L0 + 1 + 1 + 1, L0 + 1 + 1, L0 + 1, 148, 155] ex' ∧ ValsAt ex' vals wss wd) lI zI itI F4 N4 nI
      ⟨rfl, rfl, rfl, exI7 [] 0 c4 v4 p1 p2 ext ⟨rfl, d4, rfl, hG, hT1, hT2, fun _ h => h, hO, fun i v h => by simp at h⟩⟩ ?turn ?done
  case done =>
    intro m1 nw1 h5 g5 tk5 hJ F5 N5
    refine absG fun G99 k99 => ?_
    refine andE4 hJ fun j1 j2 j3 h9z0 => ?_
    refine exE7 h9z0 fun vals nv c5 v5 q1 q2 ex' h9z1 => ?_
    refine andE9 h9z1 fun e9z0 dc hvl G5 U1 U2 hsub hO5 hV => ?_
    clear h9z1 h9z0 hJ
    subst e9z0
    refine k99.go ?_
    clear k99 G99
    k_steps
    unfold Stop
    refine absG fun G99 k99 => ?_
    obtain ⟨r0, r1, rfl⟩ : ∃ r0 r1, vals = [.ref r0, .ref r1] := by
      refine absG fun G99 k99 => ?_
      obtain ⟨x, y, rfl⟩ := list2 hvl
      obtain ⟨r, _, _, e, _⟩ := hV 0 x rfl
      obtain ⟨r', _, _, e', _⟩ := hV 1 y rfl
      refine k99.go ?_
      clear k99 G99
      exact ⟨r, r', by rw [e, e']⟩
    obtain ⟨_, vs0, n0, e0, m0, i0⟩ := hV 0 _ rfl
    refine k99.go ?_
    clear k99 G99
    cases e0
    refine absG fun G99 k99 => ?_
    obtain ⟨_, vs1, n1, e1, m1, i1⟩ := hV 1 _ rfl
    refine k99.go ?_
    clear k99 G99
    cases e1
    refine table_ok g0 L0 fa cd _ _ _ _ pl W0 al lv vl r0 r1 as was als rs wss wd oV oL vs0 vs1 n0 n1 nv ((148, tabObj q1) :: (155, tabObj q2) :: ex') (newsPick [2, 3, 0, 5, 6] 7 N5) B0 X0 T0 F5 dV dL (mTl 2 m0) (mTl 2 m1) i0 i1 (hS.up fun p hp => mTl 2 (hsub p hp)) fun h' tk' m' F9 N9 => ?_
    exact hret h' tk' m' _ q1 q2 ex' F9 N9 hsub G5 U1 U2
  case turn =>
    intro k v1 m1 nw1 h5 g5 tk5 o5 hk9 hP hJ F5 N5 hn5 S9 hS9 E9
    refine absG fun G99 k99 => ?_
    refine andE4 hJ fun j1 j2 j3 h9z0 => ?_
    refine exE7 h9z0 fun vals nv c5 v5 q1 q2 ex' h9z1 => ?_
    refine andE9 h9z1 fun e9z0 dc hvl G5 U1 U2 hsub hO5 hV => ?_
    clear h9z1 h9z0 hJ
    subst e9z0
    obtain ⟨tk8, rfl⟩ := hP
    refine k99.go ?_
    clear k99 G99
    rw [known3w j1 j2 j3] at F5
    rw [show (0 : Int) + (k : Int) * 1 = (k : Int) by omega]
    have z4 : @Ne Nat (L0 + 1 + 1 + 1 + 1) I := hn5 _ (mAt 1)
    have zx := hO5.ne (c := L0 + 1 + 1 + 1 + 1) (mAt 1)
    k_steps
    unfold Stop
    (with_reducible rename Fr g0 L0 _ _ => F6)
    (with_reducible rename News g0 L0 _ _ => N6)
    (with_reducible rename _ = Data.cell (some (Value.int _ tk8)) => dK)
    (with_reducible rename Obj => oK)
    have hx : Off [vl, L0 + 1 + 1 + 1 + 1, L0 + 1 + 1 + 1, L0 + 1 + 1, L0 + 1, 148, 155] ((I, o5) :: ex') := hO5.cons (allC (Ne.symm (hn5 _ (mAt 0))) (allC (Ne.symm (hn5 _ (mAt 1))) (allC (Ne.symm (hn5 _ (mAt 2))) (allC (Ne.symm (hn5 _ (mAt 3))) (allC (Ne.symm (hn5 _ (mAt 4))) (allC (Ne.symm (hn5 (148, tabObj q1) (mAt 5))) (allC (Ne.symm (hn5 (155, tabObj q2) (mAt 6))) fun _ h => nomatch h)))))))
    have hSx : Sta ((I, o5) :: ex') pl W0 al lv as was als rs wss wd := hS.up fun p hp => .tail _ (hsub p hp)
    refine rows_ok g0 L0 fa cd _ _ _ _ pl W0 al lv vl as was als rs wss wd tw tk8 k ow oL oV oK q1 q2 vals nv ((I, o5) :: ex') (newsPick [1, 2, 3, 4, 5, 6, 7, 0] 8 N6) B0 X0 T0 F6 rfl rfl rfl dw dL dV dK hwd hk9 hSx hx hlo ?_
    intro h7 tk7 m7 rl rv nr F7 N7 a1 a2 a3 a4 hrv hrl
    (try clear F6 N6); (try clear F5); (try clear N5)
    refine thrown_ne g0 L0 fa cd _ _ _ _ pl W0 al lv vl as was als rs wss wd tw tk8 k ow oL oV oK q1 q2 vals nv ((I, o5) :: ex') rl rv nr N7 B0 X0 T0 F7 a2 a3 a4 dw dL dV dK hwd hk9 hSx hx hlo a1 hrv hrl G5 U1 U2 ?_
    intro h8 tk9 m8 gs8 q3 q4 F8 N8 b1 b2 b3 G8 U3 U4
    refine values_app g0 L0 fa cd _ _ _ _ pl W0 al lv vl as was als rs wss wd tw tk8 k ow oL oV oK q3 q4 vals nv ((I, o5) :: ex') N8 B0 X0 T0 F8 b1 b2 b3 dw dL dV dK hwd hk9 hSx hx hlo hvl G8 U3 ?_
    intro h9 tk10 m9 gs9 q5 r vs n nv2 F9 N9 e1 e2 e3 G9 U5 hI hne
    have hrx : ∀ c ∈ [vl, L0 + 1 + 1 + 1 + 1, L0 + 1 + 1 + 1, L0 + 1 + 1, L0 + 1, 148, 155], (r, listOf vs.toArray n).1 ≠ c := allC (Ne.symm (hne _ (mAt 0))) (allC (Ne.symm (hne _ (mAt 1))) (allC (Ne.symm (hne _ (mAt 2))) (allC (Ne.symm (hne _ (mAt 3))) (allC (Ne.symm (hne _ (mAt 4))) (allC (Ne.symm (hne (148, tabObj q3) (mAt 5))) (allC (Ne.symm (hne (155, tabObj q4) (mAt 6))) fun _ h => nomatch h))))))
    have hvk : (vals ++ [Value.ref r])[k]? = some (.ref r) := by rw [← hvl]; simp
    have hSy : Sta ((r, listOf vs.toArray n) :: (I, o5) :: ex') pl W0 al lv as was als rs wss wd := hSx.up fun p hp => .tail _ hp
    refine max_ok g0 L0 fa cd _ _ _ _ pl W0 al lv vl as was als rs wss wd tw tk8 k ow oL oV oK q5 q4 (vals ++ [Value.ref r]) nv2 ((r, listOf vs.toArray n) :: (I, o5) :: ex') r vs n N9 B0 X0 T0 F9 e1 e2 e3 dw dL dV dK hwd hk9 hSy (hx.cons hrx) hlo hvk (.head _) hI ?_
    intro h10 tk11 m10 F10 N10 f1 f2 f3
    refine way_ok g0 L0 fa cd _ _ _ _ pl W0 al lv vl as was als rs wss wd tw tk8 k ow oL oV oK q5 q4 (vals ++ [Value.ref r]) nv2 ((r, listOf vs.toArray n) :: (I, o5) :: ex') r vs n N10 B0 X0 T0 F10 f1 f2 f3 dw dL dV dK hwd hk9 hSy (hx.cons hrx) hlo hvk (.head _) hI ?_
    intro h11 tk12 m11 F11 N11 g1 g2 g3
    refine hS9 _ (stepK (news := (vl, listOf (vals ++ [Value.ref r]).toArray nv2) :: (L0 + 1 + 1 + 1 + 1, oK) :: (L0 + 1 + 1 + 1, oV) :: (L0 + 1 + 1, oL) :: (L0 + 1, ow) :: (148, tabObj q5) :: (155, tabObj q4) :: (r, listOf vs.toArray n) :: ex') F11 (newsPick [8, 0, 1, 2, 3, 4, 5, 6, 7] 9 N11) (allC (hn5 (vl, listOf vals.toArray nv) (mAt 0)) (allC (hn5 (L0 + 1 + 1 + 1 + 1, c5) (mAt 1)) (allC (hn5 _ (mAt 2)) (allC (hn5 _ (mAt 3)) (allC (hn5 _ (mAt 4)) (allC (hn5 (148, tabObj q1) (mAt 5)) (allC (hn5 (155, tabObj q2) (mAt 6)) (allC (Ne.symm (hne _ (mAt 7))) (pick [] 7 hn5))))))))) ⟨g1, g2, g3, exI7 (vals ++ [Value.ref r]) nv2 oK _ q5 q4 ((r, listOf vs.toArray n) :: ex') ⟨rfl, dK, by simp [hvl], G9, U5, U4, fun p hp => .tail _ (hsub p hp), hO5.cons hrx, fun i v hv => ?_⟩⟩)
    rcases Nat.lt_or_ge i vals.length with h | h
    · rw [List.getElem?_append_left h] at hv
      refine absG fun G99 k99 => ?_
      obtain ⟨r', vs', n', y1, y2, y3⟩ := hV i v hv
      refine k99.go ?_
      clear k99 G99
      exact ⟨r', vs', n', y1, .tail _ y2, y3⟩
    · have hik : i = k := by
        have := (List.getElem?_eq_some_iff.mp hv).1
        simp at this
        omega
      refine absG fun G99 k99 => ?_
      subst hik
      refine k99.go ?_
      clear k99 G99
      rw [hvk] at hv
      exact ⟨r, vs, n, (Option.some.inj hv).symm, .head _, hI⟩
end Mine
end

theorem Mine.rs23 {M : Model} {A : Around} {Q : Nat → Shared → Prop} {E : Value → Shared → Prop} {s : Shared} (h : wpAny M A (pure 1) Q E s) : wpAny M A (pure 1) Q E s := by first | (walk1; fail) | exact h
section
open PySem PySem.W PyProof.Rows PySem.Calls
set_option Elab.async false
set_option linter.unusedVariables false
set_option linter.unusedSimpArgs false
set_option maxRecDepth 100000
set_option maxHeartbeats 2000000
set_option pp.maxSteps 1200
set_option pp.deepTerms false
namespace Mine
set_option maxHeartbeats 6000000
local macro_rules | `(tactic| walk_at $s) => if s.getString == "CompSrcT" then `(tactic| walk_at "own s1") else if s.getString == "execs cons For cons" then `(tactic| refine stop_here ?_) else Lean.Macro.throwUnsupported
theorem rest1_ok {w : World} {mean : ExcName → Option Value} {mg mb : Str → Option Value} : ∀ (g0 : Heap) (L0 fa : Addr) (cd : Value) (s : Shared) (m : Str → Option Value) (Q : Flow → Shared → Prop) (E : Value → Shared → Prop)
    (pl : Addr) (as : List Addr) (nl : Nat) (wss : List (List Str)) (wd : Int) (tw : Tok) (ow c2 c3 c4 : Obj) (v2 v3 v4 : Option Value) (p1 p2 : Array Value) (ext : List (Addr × Obj))
    (B0 : Below callerA g0 [] g0) (X0 : (Mine.top.heap_1 w.params).In g0) (T0 : Top topProg (looseW Mine.top.view_1 [Str.ofString "_safe_string", Str.ofString "_Accumulator"] ++ List.map (fun x => x.name) (recsOf Mine.top.view_1) ++ List.map (fun x => x.fst) (litsOf Mine.top.view_1) ++ List.map (fun x => x.name) (clssOf Mine.top.view_1 (looseW Mine.top.view_1 [Str.ofString "_safe_string", Str.ofString "_Accumulator"]))) mean mg mb g0)
    (F : Fr g0 L0 s.heap m) (N : News g0 L0 s.heap ((L0 + 1 + 1 + 1 + 1, c4) :: (L0 + 1 + 1 + 1, c3) :: (L0 + 1 + 1, c2) :: (L0 + 1, ow) :: (148, tabObj p1) :: (155, tabObj p2) :: ext))
    (hm : m "piles" = some (.ref pl)) (dw : ow.data = .cell (some (.int wd tw))) (d2 : c2.data = .cell v2) (d3 : c3.data = .cell v3) (d4 : c4.data = .cell v4) (hwd : 0 ≤ wd ∧ wd ≤ 9)
    (hpl : (pl, listOf (as.map Value.ref).toArray nl) ∈ ext) (hal : as.length = 2) (hR : StrRows ext as wss) (hw : ∀ ws ∈ wss, ws.length = 5 ∧ ∀ x ∈ ws, x ∈ due15) (hO : Off [L0 + 1 + 1 + 1 + 1, L0 + 1 + 1 + 1, L0 + 1 + 1, L0 + 1, 148, 155] ext)
    (hl0 : (148 : Nat) < L0 ∧ (155 : Nat) < L0)
    (hret : ∀ h' tk' m' vl W0 al lv was als rs oL oV ex', Fr g0 L0 h' m' → News g0 L0 h' ((vl, listOf #[] 0) :: (L0 + 1 + 1 + 1 + 1, c4) :: (L0 + 1 + 1 + 1, oV) :: (L0 + 1 + 1, oL) :: (L0 + 1, ow) :: (148, tabObj p1) :: (155, tabObj p2) :: ex') →
      m' "piles" = some (.ref pl) → m' "ways" = some (.ref W0) → m' "alone" = some (.ref al) → oL.data = .cell (some (.ref lv)) → oV.data = .cell (some (.ref vl)) → (@LT.lt Nat _ (L0 + 1 + 1 + 1 + 1) vl) → Off [vl, L0 + 1 + 1 + 1 + 1, L0 + 1 + 1 + 1, L0 + 1 + 1, L0 + 1, 148, 155] ex' →
      Sta ex' pl W0 al lv as was als rs wss wd → (∀ p ∈ ext, p ∈ ex') → wpAny (model PySem.Challenge.rw_wu0081_01.row.prog w) (callerA.deeper (envOfC (Str.ofString "law") lawScope L0 fa cd)) (execs (lawFrom 8) (envOfC (Str.ofString "law") lawScope L0 fa cd)) Q E { s with heap := h', toks := tk' }),
    wpAny (model PySem.Challenge.rw_wu0081_01.row.prog w) (callerA.deeper (envOfC (Str.ofString "law") lawScope L0 fa cd)) (execs (lawFrom 4) (envOfC (Str.ofString "law") lawScope L0 fa cd)) Q E s := by
  k_fill
  intro g0 L0 fa cd s m Q E pl as nl wss wd tw ow c2 c3 c4 v2 v3 v4 p1 p2 ext B0 X0 T0 F N hm dw d2 d3 d4 hwd hpl hal hR hw hO hl0 hret
  dsimp only [lawFrom, lawScope, lawDef, lawS, List.drop]
  rw [known1w hm] at F
  have hwl : wss.length = 2 := hR.1.symm.trans hal
  k_steps
  (with_reducible rename Fr g0 L0 _ _ => F6)
  (with_reducible rename News g0 L0 _ _ => N6)
  have hmp0 := mTl (src := (L0 + 1 + 1 + 1 + 1, c4) :: (L0 + 1 + 1 + 1, c3) :: (L0 + 1 + 1, c2) :: (L0 + 1, ow) :: (148, tabObj p1) :: (155, tabObj p2) :: ext) 6 hpl
  refine LCg.CompSrc.ledger (its := (as.map Value.ref).toArray) (k := nl) (by rfl) F6 N6 hmp0 (by rw [List.size_toArray, List.length_map, hal]; decide) (fun g7 => ?_)
  refine comp_inv (fun i ys nw => ∃ was : List Addr, ys = was.map Value.ref ∧ was.length = i ∧ Fresh (fun fr => WaysAt fr was wss wd) ((L0 + 1 + 1 + 1 + 1, c4) :: (L0 + 1 + 1 + 1, c3) :: (L0 + 1 + 1, c2) :: (L0 + 1, ow) :: (148, tabObj p1) :: (155, tabObj p2) :: ext) ((L0 + 1 + 1 + 1 + 1, c4) :: (L0 + 1 + 1 + 1, c3) :: (L0 + 1 + 1, c2) :: (L0 + 1, ow) :: (148, tabObj p1) :: (155, tabObj p2) :: ext) nw) ?turnW (fun ys nw hF => ?_) ⟨[], rfl, rfl, Fresh.start (fun i a e => by simp at e)⟩
  case turnW =>
    intro i v I2 oI C oC D m2 ys nw h8 tk8 E8 hi hv hInv hC hx F8 N8 off ne
    refine absG fun G99 k99 => ?_
    obtain ⟨was, rfl, hwl2, hJ⟩ := hInv
    have hi2 : i < 2 := by simpa [hal] using hi
    obtain ⟨a, ha⟩ : ∃ a, as[i]? = some a := ⟨_, List.getElem?_eq_getElem (by omega)⟩
    have e1 : v = .ref a := by simpa [ha] using hv.symm
    subst e1
    obtain ⟨vs9, n9, hm9, hs9⟩ := hR.2 i a ha
    have hmb : (a, listOf vs9.toArray n9) ∈ nw := hJ.sub _ (mTl 6 hm9)
    have hmw : (L0 + 1, ow) ∈ nw := hJ.sub _ (mAt 3)
    have hmp : (pl, listOf (as.map Value.ref).toArray nl) ∈ nw := hJ.sub _ hmp0
    obtain ⟨hl5, hd15⟩ := hw (wss.getD i []) (by rw [List.getD_eq_getElem?_getD, List.getElem?_eq_getElem (by omega)]; exact List.getElem_mem _)
    refine k99.go ?_
    clear k99 G99
    have hb100 : ∀ x ∈ wss.getD i [], x.length ≤ 100 := fun x hx => (due15_ok x (hd15 x hx)).1
    replace N8 : News g0 L0 h8 ((I2, oI) :: (C, oC) :: (D, LCg.lst (was.map Value.ref)) :: (L0 + 1, ow) :: nw) := newsPick [1, 2, 3, 0] 4 (newsPlus N8 (mTl 3 hmw))
    k_steps
    unfold Stop
    (with_reducible rename News g0 L0 _ _ => N9)
    replace N9 : News g0 L0 _ ((a, listOf vs9.toArray n9) :: (I2, oI) :: (C, oC) :: (D, LCg.lst (was.map Value.ref)) :: nw) := newsPick [0, 1, 2, 3] 5 (newsPlus N9 (mTl 4 hmb))
    refine' ways_ok _ _ _ _ _ _ _ _ _ _ _ _ _ _ _ _ _ _ a vs9 (wss.getD i []) n9 _ _ ((I2, oI) :: (C, oC) :: (D, LCg.lst (was.map Value.ref)) :: nw) rfl ?kB ?kF ?kX ?kN ?kT ?kk ?kd ?ku hwd hs9 hl5 hb100 ?kr
    (case kB => k_asm); (case kF => k_asm); (case kX => assumption); (case kN => k_asm); (case kT => k_asm); (case kk => exact rfl); (case kd => ktr_room); (case ku => first | ktr_units | (have hcL9 := cLine_is; (try simp only [units_under_make, units_in1, units_deeper, Around.mark_units, units_caller]); (try dsimp only [ktrTop]); omega))
    case kr =>
    intro r9 refs nr fr h9 tk9 F10 N10 hrl hR2 hfr hnr hfb
    k_steps
    replace N10 : News g0 L0 h9 ((I2, oI) :: (C, oC) :: (D, LCg.lst (was.map Value.ref)) :: (r9, listOf (refs.map Value.ref).toArray nr) :: (fr ++ nw)) := newsPick [] 1 (newsFront (A := (r9, _) :: fr) (own := [(a, _), (I2, _), (C, _), (D, _)]) N10)
    refine LCg.CompEnd.intro F10 N10 ((r9, listOf (refs.map Value.ref).toArray nr) :: (fr ++ nw)) (fun p hp => hp) (off3_of fun p hp => ?_) (.inr ⟨_, .tail _ (List.mem_append_right _ hmp), rfl, _, rfl⟩) ⟨was ++ [r9], by simp, by simp [hwl2], ?_⟩
    · rcases List.mem_cons.mp hp with rfl | hp
      · exact ⟨fun e => hnr _ (mAt 1) e.symm, fun e => hnr _ (mAt 2) e.symm, fun e => hnr _ (mAt 3) e.symm⟩
      · rcases List.mem_append.mp hp with hp | hp
        · exact ⟨fun e => hfb p hp _ (mAt 1) e.symm, fun e => hfb p hp _ (mAt 2) e.symm, fun e => hfb p hp _ (mAt 3) e.symm⟩
        · exact off.mem p hp
    · refine absG fun G99 k99 => ?_
      obtain ⟨fr0, rfl, hW, hB0⟩ := hJ
      refine k99.go ?_
      clear k99 G99
      refine ⟨(r9, listOf (refs.map Value.ref).toArray nr) :: (fr ++ fr0), by simp only [List.cons_append, List.append_assoc], waysAt_snoc (hW.up fun p hp => .tail _ (List.mem_append_right _ hp)) (.head _) hrl (hwl2 ▸ hR2.up fun p hp => .tail _ (List.mem_append_left _ hp)), allC (fun x hx => hnr x (mTl 4 (List.mem_append_right _ hx))) fun p hp x hx => ?_⟩
      rcases List.mem_append.mp hp with hp | hp
      · exact hfb p hp x (mTl 4 (List.mem_append_right _ hx))
      · exact hB0 p hp x hx
  refine absG fun G99 k99 => ?_
  obtain ⟨was, rfl, hwl2, fr, rfl, hWA, hFB⟩ := hF
  replace hwl2 : was.length = 2 := by simpa [hal] using hwl2
  (try clear F6); (try clear N6)
  obtain ⟨A0, A1, rfl⟩ := list2 hwl2
  obtain ⟨as0, n0, hA0, hl0, hR0⟩ := hWA 0 A0 rfl
  obtain ⟨as1, n1, hA1, hl1, hR1⟩ := hWA 1 A1 rfl
  refine k99.go ?_
  clear k99 G99
  k_steps
  unfold Stop
  (with_reducible rename LCg.Off1 _ _ => oW)
  rename_i W0 _ _ _ _
  have oW' := off1_of oW
  refine' lost_ok _ _ _ _ _ _ _ _ _ _ _ _ _ _ _ _ _ _ W0 A0 A1 2 n0 n1 as0 as1 (wayN (wss.getD 0 []) wd) (wayN (wss.getD 1 []) wd) (.head _) (.tail _ (List.mem_append_left _ hA0)) (.tail _ (List.mem_append_left _ hA1)) hl0 hl1
    (hR0.up fun p hp => .tail _ (List.mem_append_left _ hp)) (hR1.up fun p hp => .tail _ (List.mem_append_left _ hp)) (fun _ => natsOf_lt) (fun _ => natsOf_lt) (fun _ => natsOf_len) (fun _ => natsOf_len) ?kB ?kF ?kX ?kN ?kT ?kk ?kd ?ku ?kr
  (case kB => k_asm); (case kF => k_asm); (case kX => assumption); (case kN => k_asm); (case kT => k_asm); (case kk => exact rfl); (case kd => ktr_room); (case ku => first | ktr_units | (have hcL9 := cLine_is; (try simp only [units_under_make, units_in1, units_deeper, Around.mark_units, units_caller]); (try dsimp only [ktrTop]); omega))
  case kr =>
  intro lv rs nL frL h9 tk9 F10 N10 hB hfr hnr hfb
  have hOr : Off [L0 + 1 + 1 + 1 + 1, L0 + 1 + 1 + 1, L0 + 1 + 1, L0 + 1, 148, 155] frL := Off.of [(L0 + 1 + 1 + 1 + 1, c4), (L0 + 1 + 1 + 1, c3), (L0 + 1 + 1, c2), (L0 + 1, ow), (148, tabObj p1), (155, tabObj p2)] hfb fun x hx => .tail _ (List.mem_append_right _ (List.mem_append_left ext hx))
  have hOf : Off [L0 + 1 + 1 + 1 + 1, L0 + 1 + 1 + 1, L0 + 1 + 1, L0 + 1, 148, 155] fr := Off.of [(L0 + 1 + 1 + 1 + 1, c4), (L0 + 1 + 1 + 1, c3), (L0 + 1 + 1, c2), (L0 + 1, ow), (148, tabObj p1), (155, tabObj p2)] hFB fun x hx => List.mem_append_left ext hx
  have hO2 : Off [L0 + 1 + 1 + 1 + 1, L0 + 1 + 1 + 1, L0 + 1 + 1, L0 + 1, 148, 155] ((lv, listOf (rs.map Value.ref).toArray nL) :: (frL ++ (W0, LCg.lst ([A0, A1].map Value.ref)) :: (fr ++ ext))) :=
    Off.one (own := [(L0 + 1 + 1 + 1 + 1, c4), (L0 + 1 + 1 + 1, c3), (L0 + 1 + 1, c2), (L0 + 1, ow), (148, tabObj p1), (155, tabObj p2)]) (fun x hx => hnr x (.tail _ (List.mem_append_right _ (List.mem_append_left ext hx)))) (hOr.app (Off.one (own := [(L0 + 1 + 1 + 1 + 1, c4), (L0 + 1 + 1 + 1, c3), (L0 + 1 + 1, c2), (L0 + 1, ow), (148, tabObj p1), (155, tabObj p2)]) (fun x hx => oW' x (List.mem_append_right _ (List.mem_append_left ext hx))) (hOf.app hO)))
  replace N10 : News g0 L0 h9 ((L0 + 1 + 1 + 1 + 1, c4) :: (L0 + 1 + 1 + 1, c3) :: (L0 + 1 + 1, c2) :: (L0 + 1, ow) :: (148, tabObj p1) :: (155, tabObj p2) :: (lv, listOf (rs.map Value.ref).toArray nL) :: (frL ++ (W0, LCg.lst ([A0, A1].map Value.ref)) :: (fr ++ ext))) :=
    newsFront2 (A := (lv, _) :: frL) (B := (W0, _) :: fr) (own := [(L0 + 1 + 1 + 1 + 1, c4), (L0 + 1 + 1 + 1, c3), (L0 + 1 + 1, c2), (L0 + 1, ow), (148, tabObj p1), (155, tabObj p2)]) N10
  have hBX : BoolRows ((lv, listOf (rs.map Value.ref).toArray nL) :: (frL ++ (W0, LCg.lst ([A0, A1].map Value.ref)) :: (fr ++ ext))) rs (lostN (wayN (wss.getD 0 []) wd) (wayN (wss.getD 1 []) wd) 6) := hB.up fun p hp => .tail _ (List.mem_append_left _ hp)
  have hWX : WaysAt ((lv, listOf (rs.map Value.ref).toArray nL) :: (frL ++ (W0, LCg.lst ([A0, A1].map Value.ref)) :: (fr ++ ext))) [A0, A1] wss wd := hWA.up fun p hp => .tail _ (List.mem_append_right _ (.tail _ (List.mem_append_left _ hp)))
  have hlX : (lv, listOf (rs.map Value.ref).toArray nL) ∈ ((lv, listOf (rs.map Value.ref).toArray nL) :: (frL ++ (W0, LCg.lst ([A0, A1].map Value.ref)) :: (fr ++ ext))) := .head _
  have hwX : (W0, LCg.lst ([A0, A1].map Value.ref)) ∈ ((lv, listOf (rs.map Value.ref).toArray nL) :: (frL ++ (W0, LCg.lst ([A0, A1].map Value.ref)) :: (fr ++ ext))) := .tail _ (List.mem_append_right _ (.head _))
  have hsX : ∀ p ∈ ext, p ∈ ((lv, listOf (rs.map Value.ref).toArray nL) :: (frL ++ (W0, LCg.lst ([A0, A1].map Value.ref)) :: (fr ++ ext))) := fun p hp => .tail _ (List.mem_append_right _ (.tail _ (List.mem_append_right _ hp)))
  clear hfr hnr hfb hOr hOf oW oW' hFB hWA hB hR0 hR1 hA0 hA1 hO
  generalize (lv, listOf (rs.map Value.ref).toArray nL) :: (frL ++ (W0, LCg.lst ([A0, A1].map Value.ref)) :: (fr ++ ext)) = ex2 at N10 hO2 hBX hWX hlX hwX hsX
  have n2 := hO2.ne (c := L0 + 1 + 1) (mAt 2)
  have n3 := hO2.ne (c := L0 + 1 + 1 + 1) (mAt 1)
  k_steps
  unfold Stop
  have hw0 : (wss.getD 0 []).length = 5 := (hw (wss.getD 0 []) (by rw [List.getD_eq_getElem?_getD, List.getElem?_eq_getElem (by omega)]; exact List.getElem_mem _)).1
  have hw1 : (wss.getD 1 []).length = 5 := (hw (wss.getD 1 []) (by rw [List.getD_eq_getElem?_getD, List.getElem?_eq_getElem (by omega)]; exact List.getElem_mem _)).1
  (with_reducible rename _ = Data.cell (some (Value.ref lv)) => dL)
  have hlrs : rs.length = 6 := hBX.1.trans (lostN_len _ _ _)
  (with_reducible rename Obj => oL)
  refine comp_ints (fun i => lostAt (wayN (wss.getD 0 []) wd) (wayN (wss.getD 1 []) wd) i 0) (fun i => (i : Int)) (fun i v I' oI C oC D m2 ys h6 tk6 E6 hi hv hC hx F6 N6 off ne => ?_) (fun ys hys => ?_)
  · refine absG fun G99 k99 => ?_
    obtain ⟨t6, rfl⟩ := hv
    have hi6 : i < 6 := hi
    obtain ⟨a, ha⟩ : ∃ a, rs[i]? = some a := ⟨_, List.getElem?_eq_getElem (by omega)⟩
    obtain ⟨vs1, m1, hm1, hb1⟩ := hBX.2 i a ha
    refine k99.go ?_
    clear k99 G99
    have hx1 : (rs.map Value.ref).toArray[((0 : Int) + (i : Int)).toNat]? = some (.ref a) := by
      rw [show ((0 : Int) + (i : Int)).toNat = i by omega]; simp [ha]
    have hbl : ((lostN (wayN (wss.getD 0 []) wd) (wayN (wss.getD 1 []) wd) 6).getD i []).length = 6 := lostN_row _ _ 6 _ (by
      rw [List.getD_eq_getElem?_getD, List.getElem?_eq_getElem (by rw [lostN_len]; exact hi6)]; exact List.getElem_mem _)
    have hx2 : vs1.toArray[Int.toNat 0]? = some (.bool (lostAt (wayN (wss.getD 0 []) wd) (wayN (wss.getD 1 []) wd) i 0)) := by
      have := kbo_at hb1 0 (by omega)
      simpa [lostAt] using this
    k_steps
    · exact LCg.CompEnd.intro F6 N6 _ (fun p hp => hp) off trivial ⟨rfl, by assumption, _, by rw [Int.zero_add]⟩
    · exact LCg.CompEnd.intro F6 N6 _ (fun p hp => hp) off trivial ⟨rfl, by assumption⟩
  rw [show (6 - 0 : Int).toNat = 6 from rfl, alone0 hw0 hw1] at hys
  k_steps
  unfold Stop
  refine comp_ints (fun j => lostAt (wayN (wss.getD 0 []) wd) (wayN (wss.getD 1 []) wd) 0 j) (fun i => (i : Int)) (fun i v I' oI C oC D m2 zs h6 tk6 E6 hi hv hC hx F6 N6 off ne => ?_) (fun zs hzs => ?_)
  · refine absG fun G99 k99 => ?_
    obtain ⟨t6, rfl⟩ := hv
    have hi6 : i < 6 := hi
    obtain ⟨a, ha⟩ : ∃ a, rs[0]? = some a := ⟨_, List.getElem?_eq_getElem (by omega)⟩
    obtain ⟨vs1, m1, hm1, hb1⟩ := hBX.2 0 a ha
    refine k99.go ?_
    clear k99 G99
    have hx1 : (rs.map Value.ref).toArray[Int.toNat 0]? = some (.ref a) := by
      simp [ha]
    have hbl : ((lostN (wayN (wss.getD 0 []) wd) (wayN (wss.getD 1 []) wd) 6).getD 0 []).length = 6 := lostN_row _ _ 6 _ (by
      rw [List.getD_eq_getElem?_getD, List.getElem?_eq_getElem (by rw [lostN_len]; omega)]; exact List.getElem_mem _)
    have hx2 : vs1.toArray[((0 : Int) + (i : Int)).toNat]? = some (.bool (lostAt (wayN (wss.getD 0 []) wd) (wayN (wss.getD 1 []) wd) 0 i)) := by
      rw [show ((0 : Int) + (i : Int)).toNat = i by omega]
      have := kbo_at hb1 i (by omega)
      simpa [lostAt] using this
    k_steps
    · exact LCg.CompEnd.intro F6 N6 _ (fun p hp => hp) off trivial ⟨rfl, by assumption, _, by rw [Int.zero_add]⟩
    · exact LCg.CompEnd.intro F6 N6 _ (fun p hp => hp) off trivial ⟨rfl, by assumption⟩
  rw [show (6 - 0 : Int).toNat = 6 from rfl, alone1 hw0 hw1] at hzs
  k_steps
  unfold Stop
  rename_i D1 _ _ oA _ _ _ _ _ _ _ _ _ D2 _ _ oB al _ lA _ vl _ lV _ oV F11 N11 dV
  have eA := off1_of oA.2.2.2.2.2.2
  have eB := off1_of oB.2.2.2.2.2.2.2
  have gA := lt_of_all lA.2.2.2.2.2.2.2.2
  have gV := lt_of_all lV.2.2.2.2.2.2.2.2.2
  refine absG fun G99 k99 => ?_
  obtain ⟨o1, o2, o3, o4, o5, o6, _⟩ := oA
  obtain ⟨_, b1, b2, b3, b4, b5, b6, _⟩ := oB
  obtain ⟨_, _, a1, a2, a3, a4, a5, a6, _⟩ := lA
  obtain ⟨u1, u2, u3, u4, u5, u6, u7, u8, u9, _⟩ := lV
  refine k99.go ?_
  clear k99 G99
  refine hret _ _ _ vl W0 al lv [A0, A1] [D1, D2] rs oL oV ((al, listOf #[.ref D1, .ref D2] 0) :: (D2, LCg.lst zs) :: (D1, LCg.lst ys) :: ex2) F11 (newsPick [0, 4, 5, 6, 7, 8, 9, 1, 2, 3] 10 N11) rfl rfl rfl dL dV u4 ?_
    ⟨⟨nl, mTl 3 (hsX _ hpl)⟩, ⟨2, mTl 3 hwX⟩, ⟨0, .head _⟩, ⟨nL, mTl 3 hlX⟩, hal, rfl, rfl, hR.up fun p hp => mTl 3 (hsX p hp), hWX.up fun p hp => mTl 3 hp, ?_, hBX.up fun p hp => mTl 3 hp, hw⟩ fun p hp => mTl 3 (hsX p hp)
  · refine Off.cons (Off.cons (Off.cons (fun p hp c hc => ?_) ?_) ?_) ?_
    · rcases List.mem_cons.mp hc with rfl | hc
      · exact Nat.ne_of_lt (gV p hp)
      · exact hO2 p hp c hc
    · exact allC (Nat.ne_of_lt u3) (allC o1.symm (allC o2.symm (allC o3.symm (allC o4.symm (allC o5.symm (allC o6.symm fun _ h => nomatch h))))))
    · exact allC (Nat.ne_of_lt u2) (allC b1.symm (allC b2.symm (allC b3.symm (allC b4.symm (allC b5.symm (allC b6.symm fun _ h => nomatch h))))))
    · exact allC (Nat.ne_of_lt u1) (allC (Nat.ne_of_gt a1) (allC (Nat.ne_of_gt a2) (allC (Nat.ne_of_gt a3) (allC (Nat.ne_of_gt a4) (allC (Nat.ne_of_gt a5) (allC (Nat.ne_of_gt a6) fun _ h => nomatch h))))))
  · intro i a e
    match i, e with
    | 0, e => rw [← Option.some.inj e]; exact ⟨_, _, mAt 2, hys⟩
    | 1, e => rw [← Option.some.inj e]; exact ⟨_, _, mAt 1, hzs⟩
end Mine
end

end
theorem Mine.rs24 {M : Model} {A : Around} {Q : Nat → Shared → Prop} {E : Value → Shared → Prop} {s : Shared} (h : wpAny M A (pure 1) Q E s) : wpAny M A (pure 1) Q E s := by first | (walk1; fail) | exact h
section
open PySem PySem.W PyProof.Rows PySem.Calls
set_option Elab.async false
set_option linter.unusedVariables false
set_option linter.unusedSimpArgs false
set_option maxRecDepth 100000
set_option maxHeartbeats 2000000
set_option pp.maxSteps 1200
set_option pp.deepTerms false
namespace Mine
set_option maxHeartbeats 6000000
local macro_rules | `(tactic| walk_at $s) => if s.getString ∈ ["call ref", "pyIter ref", "subscriptTail Name Slice ref ref", "subscriptTail Name UnaryOp ref int"] then `(tactic| refine stop_here ?_) else if s.getString ∈ ["exec For Name Call cons nil", "exec For Name Tuple cons nil", "exec For Name Subscript cons nil"] then `(tactic| walk_at "own s3") else if s.getString ∈ ["subscriptTail", "subscriptTail Name Constant ref int", "subscriptTail Name Name ref int"] then `(tactic| walk_at "own item") else Lean.Macro.throwUnsupported
theorem walk3 : WalkO Mine.top.view_1 [Str.ofString "_safe_string", Str.ofString "_Accumulator"] (XL Mine.top.view_1 []) (kmHook Mine.top.heap_1 Mine.top.addrs addrsE [148, 155, 292]).says PySem.Challenge.rw_wu0081_01.row.toRowW lawDef [] (fun f vs => call f vs) := by
  dsimp only [lawDef, lawS]
  k_fill
  intro w s₀ s₁ mg mb G Y fa o pm cd doc dV kV ho hd hcd hD hmg hg args vals as hpre hlay hrd hwl hlo
  have KX := km_in_of Y
  km_tabs Y
  have X := (Ground.X G).1
  have V := (Ground.X G).2
  refine Ground.open G ?_
  intro T B D TE TW
  try (refine guard_noD D (by decide +kernel) ?_; clear D)
  have hT9 : TabsAt ([(152, 148), (159, 155), (296, 292)] : List (Addr × Addr)) _ := List.forall_mem_cons.mpr ⟨⟨codeHd_of_K (c := 152) (P := 148) KX (by kernel_rfl), hT8 148 (by k_mem)⟩, List.forall_mem_cons.mpr ⟨⟨codeHd_of_K (c := 159) (P := 155) KX (by kernel_rfl), hT8 155 (by k_mem)⟩, List.forall_mem_cons.mpr ⟨⟨codeHd_of_K (c := 296) (P := 292) KX (by kernel_rfl), hT8 292 (by k_mem)⟩, fun _ h => nomatch h⟩⟩⟩
  clear hmg
  wrow_args hpre hlay hrd hwl hlo
  all_goals (
    first | refine callC_kw (enter_call ?_) | refine enter_call ?_
    w_top on
    refine post3 hT9 (fun _ => rfl) (by first | with_unfolding_all rfl | kernel_rfl) ?_
    w_call any ho hd hcd hD T F
    clear hd
    kn_ghosts F T
    k_drop
    skip)
  all_goals try k_fold
  rename_i ns hs9 hla9 hL9 hr9 hl9 wa9 wb9 l vs wc9 hL hra9 hw9 hr09 hI hrw9 h63 hc9 h1 tk1 c4 c3 c2 c1 d4 d3 d2 d1 eC X0 T0 B0 F0 cd1 cd2 N0 l0
  have hl63 : ns.length ≤ 63 := by omega
  clear hs9 hla9 hL9 hr9 hl9 wa9 wb9 hra9 hw9 hr09 hrw9 h63 hc9 hL wc9 X V T B TE TW hT8 hcd hD ho
  have hgB : AllBare s₁.gens := AllBare.of_eq hg
  (try clear KX); (try clear Y); (try clear G); (try clear eC); (try clear hg)
  generalize hgh : ghostOf s₁.heap [(152, 148), (159, 155), (296, 292)] = g0 at *
  generalize hsz : s₁.heap.objs.size = L0 at *
  k_steps
  unfold Stop
  refine' cells_ok _ _ _ _ _ _ _ _ _ _ _ _ _ _ _ _ _ _ l vs ns ?kB ?kF ?kX ?kN ?kT ?kk ?kd ?ku (by assumption) hI hl63 ?kr
  (case kB => k_asm); (case kF => k_asm); (case kX => assumption); (case kN => k_asm); (case kT => k_asm); (case kk => exact rfl); (case kd => ktr_room); (case ku => first | ktr_units | (have hcL9 := cLine_is; (try simp only [units_under_make, units_in1, units_deeper, Around.mark_units, units_caller]); (try dsimp only [ktrTop]); omega))
  case kr =>
  intro ca h2 tk2 cs9 nc F2 N2 hcs lc
  k_lt lc
  refine absG fun G99 k99 => ?_
  obtain ⟨hcl, hcb⟩ := cells_facts ns
  obtain ⟨cv, rfl⟩ : ∃ cv : List Value, cs9 = cv.toArray := ⟨cs9.toList, by simp⟩
  refine k99.go ?_
  clear k99 G99
  rw [List.toList_toArray] at hcs
  generalize cellsOf ns = cz at hcs hcl hcb
  refine absG fun G99 k99 => ?_
  obtain ⟨c0, hc0⟩ : ∃ c0, cz[0]? = some c0 := ⟨_, List.getElem?_eq_getElem (by omega)⟩
  obtain ⟨t0, ht0⟩ := hcs.get 0 c0 hc0
  refine k99.go ?_
  clear k99 G99
  have hx0 : cv.toArray[(0 : Int).toNat]? = some (.int c0 t0) := by simpa using ht0
  have hb0 := hcb c0 (List.mem_of_getElem? hc0)
  clear hI
  k_steps
  unfold Stop
  (with_reducible rename Fr g0 L0 _ _ => F3)
  (with_reducible rename News g0 L0 _ _ => N3)
  (with_reducible rename _ ∧ _ => lT)
  (with_reducible rename Obj => ow)
  rename_i hdw pl _ lP _ T _
  refine absG fun G99 k99 => ?_
  obtain ⟨tw, hdw⟩ : ∃ tw, ow.data = .cell (some (.int (4 + c0.fmod 6) tw)) := ⟨_, hdw⟩
  obtain ⟨t1, t6, N3⟩ : ∃ t1 t6, News g0 L0 _ [(T, tupObj #[.int 1 t1, .int 6 t6]), (pl, listOf #[] 0), (ca, listOf cv.toArray nc), (L0 + 1 + 1 + 1 + 1, c4), (L0 + 1 + 1 + 1, c3), (L0 + 1 + 1, c2), (L0 + 1, ow), (148, tabObj #[]), (155, tabObj #[]), (292, tabObj #[])] := ⟨_, _, N3⟩
  refine k99.go ?_
  clear k99 G99
  refine pyIter_tup_K F3 N3 ⟨_, (N3 _ (.head _)).1, rfl, _, rfl⟩ (fun I h4 F4 N4 nI lI zI iI itI => ?_)
  refine absG fun G99 k99 => ?_
  obtain ⟨ce4, hce4⟩ : ∃ e : Addr × Obj, e = (L0 + 1 + 1 + 1 + 1, c4) := ⟨_, rfl⟩
  obtain ⟨ce3, hce3⟩ : ∃ e : Addr × Obj, e = (L0 + 1 + 1 + 1, c3) := ⟨_, rfl⟩
  obtain ⟨ce2, hce2⟩ : ∃ e : Addr × Obj, e = (L0 + 1 + 1, c2) := ⟨_, rfl⟩
  obtain ⟨ce1, hce1⟩ : ∃ e : Addr × Obj, e = (L0 + 1, ow) := ⟨_, rfl⟩
  obtain ⟨ce48, hce48⟩ : ∃ e : Addr × Obj, e = (148, tabObj #[]) := ⟨_, rfl⟩
  obtain ⟨ce55, hce55⟩ : ∃ e : Addr × Obj, e = (155, tabObj #[]) := ⟨_, rfl⟩
  refine k99.go ?_
  clear k99 G99
  rw [← hce4, ← hce3, ← hce2, ← hce1, ← hce48, ← hce55] at N4 nI
  replace lP : @LT.lt Nat _ ca pl ∧ @LT.lt Nat _ ce4.1 pl ∧ @LT.lt Nat _ ce3.1 pl ∧ @LT.lt Nat _ ce2.1 pl ∧ @LT.lt Nat _ ce1.1 pl ∧ @LT.lt Nat _ ce48.1 pl ∧ @LT.lt Nat _ ce55.1 pl ∧ @LT.lt Nat _ 292 pl := by
    subst hce4 hce3 hce2 hce1 hce48 hce55; exact lP
  replace lT : @LT.lt Nat _ pl T ∧ @LT.lt Nat _ ca T ∧ @LT.lt Nat _ ce4.1 T ∧ @LT.lt Nat _ ce3.1 T ∧ @LT.lt Nat _ ce2.1 T ∧ @LT.lt Nat _ ce1.1 T ∧ @LT.lt Nat _ ce48.1 T ∧ @LT.lt Nat _ ce55.1 T ∧ @LT.lt Nat _ 292 T := by
    subst hce4 hce3 hce2 hce1 hce48 hce55; exact lT
  have zca : @Ne Nat ca 292 := by omega
  have z4 : @Ne Nat ce4.1 292 := by subst hce4; show @Ne Nat (L0 + 1 + 1 + 1 + 1) 292; omega
  have z3 : @Ne Nat ce3.1 292 := by subst hce3; show @Ne Nat (L0 + 1 + 1 + 1) 292; omega
  have z2 : @Ne Nat ce2.1 292 := by subst hce2; show @Ne Nat (L0 + 1 + 1) 292; omega
  have z1 : @Ne Nat ce1.1 292 := by subst hce1; show @Ne Nat (L0 + 1) 292; omega
  have z48 : @Ne Nat ce48.1 292 := by subst hce48; decide
  have z55 : @Ne Nat ce55.1 292 := by subst hce55; decide
  refine codeAny_mono (R := fun r s' => HidP (r = .ok .next ∧ ∃ h' m' tk' as nl p3 wss ext, s' = { s₁ with heap := h', toks := tk' } ∧ Fr g0 L0 h' m' ∧ News g0 L0 h' ((pl, listOf (as.map Value.ref).toArray nl) :: (ca, listOf cv.toArray nc) :: ce4 :: ce3 :: ce2 :: ce1 :: ce48 :: ce55 :: (292, tabObj p3) :: ext) ∧ m' "piles" = some (.ref pl) ∧ m' "cells" = some (.ref ca) ∧
    LamTab ⟨177, 24, 177, 47⟩ "_law_told.<locals>.<lambda>" p3 ext ∧ StrRows ext as wss ∧ wss.length = 2 ∧ (∀ ws ∈ wss, ws.length = 5 ∧ ∀ x ∈ ws, x ∈ due15) ∧ Off [pl, ca, ce4.1, ce3.1, ce2.1, ce1.1, ce48.1, ce55.1, 292] ext)) ?loop ?after
  case loop =>
    refine codeAny_abs fun R9 hR9 => ?_
    refine for_KP (I := I) (ax := T) (its := #[.int 1 t1, .int 6 t6]) (lo := tupObj #[.int 1 t1, .int 6 t6]) rfl iI rfl ⟨_, rfl⟩ (fun k m' nw' g9 => g9 = s₁.gens ∧ m' "cells" = some (.ref ca) ∧ m' "piles" = some (.ref pl) ∧ ∃ (as : List Addr) (nl : Nat) (p3 : Array Value) (wss : List (List Str)) (ext : List (Addr × Obj)),
      nw' = (pl, listOf (as.map Value.ref).toArray nl) :: (ca, listOf cv.toArray nc) :: ce4 :: ce3 :: ce2 :: ce1 :: ce48 :: ce55 :: (292, tabObj p3) :: ext ∧ LamTab ⟨177, 24, 177, 47⟩ "_law_told.<locals>.<lambda>" p3 ext ∧ StrRows ext as wss ∧ wss.length = k ∧ (∀ ws ∈ wss, ws.length = 5 ∧ ∀ x ∈ ws, x ∈ due15) ∧ Off [pl, ca, ce4.1, ce3.1, ce2.1, ce1.1, ce48.1, ce55.1, 292] ext ∧ (T, tupObj #[.int 1 t1, .int 6 t6]) ∈ ext) (fun k m nw g h => by
        refine absG fun G99 k99 => ?_
        obtain ⟨_, _, _, _, _, _, _, ext, rfl, _, _, _, _, _, hT⟩ := h
        refine k99.go ?_
        clear k99 G99
        exact (mTl 9 hT))
      lI zI itI F4 (news₀ := (pl, listOf (([] : List Addr).map Value.ref).toArray 0) :: (ca, listOf cv.toArray nc) :: ce4 :: ce3 :: ce2 :: ce1 :: ce48 :: ce55 :: (292, tabObj #[]) :: [(T, tupObj #[.int 1 t1, .int 6 t6])]) (newsPick [1, 2, 3, 4, 5, 6, 7, 8, 9, 0] 10 N4) (pick [1, 2, 3, 4, 5, 6, 7, 8, 9, 0] 10 nI) ⟨rfl, rfl, rfl, exI5 [] 0 #[] [] ([(T, tupObj #[.int 1 t1, .int 6 t6])]) ⟨rfl, .inl rfl, ⟨rfl, fun i a h => by simp at h⟩, rfl, (fun _ h => nomatch h), ?o1, .head _⟩⟩ ?turn ?done
    case o1 =>
      intro p hp
      rw [List.mem_singleton.mp hp]
      refine allC ?_ (allC ?_ (allC ?_ (allC ?_ (allC ?_ (allC ?_ (allC ?_ (allC ?_ (allC ?_ (fun _ h => nomatch h))))))))) <;> k_ne
    case done =>
      intro m1 nw1 h5 g5 tk5 hJ F5 N5
      refine absG fun G99 k99 => ?_
      refine andE4 hJ fun e9z0 j1 j2 h9z0 => ?_
      refine exE5 h9z0 fun as nl p3 wss ext h9z1 => ?_
      refine andE7 h9z1 fun e9z1 jL jR jl jw jO jT => ?_
      clear h9z1 h9z0 hJ
      subst e9z0
      subst e9z1
      refine k99.go ?_
      clear k99 G99
      k_steps
      exact hR9 _ _ ⟨by first | rfl | trivial, _, _, _, as, nl, p3, wss, ext, rfl, F5, N5, j2, j1, jL, jR, jl, jw, jO⟩
    case turn =>
      intro k v1 m1 nw1 h5 g5 tk5 o5 hk9 hv9 hJ F5 N5 hn5 S9 hS9 E9
      refine absG fun G99 k99 => ?_
      refine andE4 hJ fun e9z0 j1 j2 h9z0 => ?_
      refine exE5 h9z0 fun as nl p3 wss ext h9z1 => ?_
      refine andE7 h9z1 fun e9z1 jL jR jl jw jO jT => ?_
      clear h9z1 h9z0 hJ
      subst e9z0
      subst e9z1
      rw [known2 j1 j2] at F5
      obtain ⟨b, tb, rfl, hb⟩ : ∃ b tb, v1 = .int b tb ∧ 1 ≤ b ∧ b ≤ 6 := by
        match k, hk9, hv9 with
        | 0, _, h => exact ⟨1, t1, (Option.some.inj h).symm, by decide⟩
        | 1, _, h => exact ⟨6, t6, (Option.some.inj h).symm, by decide⟩
      refine k99.go ?_
      clear k99 G99
      have hzc : cv.toArray.size ≤ sizeLine := by rw [List.size_toArray, hcs.length, hcl]; decide
      have n1 := jO.ne (c := pl) (.head _)
      k_steps
      unfold Stop
      (k_here; k_dflt (refine' slice_intsN ?Fzq ?Nzq ?lzq ?pzq ?qzq ?izq ?hxzq ?hyzq ?_ ?szq ?tzq ?zzq; (case Fzq => k_asm); (case Nzq => k_asm); (case lzq => kmk_list); (case pzq => exact IsPart.int _ _); (case qzq => exact IsPart.int _ _); (case izq => assumption); (case hxzq => omega); (case hyzq => omega); (case szq => with_unfolding_all rfl); (case tzq => kmk_pure); (case zzq => assumption)); intro D hz9 wsl F6 N6 lD hsl; (try k_lt lD))
      k_steps
      unfold Stop
      rename_i td _ lt _ _ _
      have hsb : ∀ c ∈ (cz.take (b + 5).toNat).drop b.toNat, 0 ≤ c ∧ c < 2000000 := fun c hc => hcb c (List.mem_of_mem_take (List.mem_of_mem_drop hc))
      have hsn : ((cz.take (b + 5).toNat).drop b.toNat).length = 5 := by rw [List.length_drop, List.length_take, hcl]; exact five_of hb
      generalize (cz.take (b + 5).toNat).drop b.toNat = sl at hsl hsb hsn
      have hwz : wsl.toArray.size = 5 := by rw [List.size_toArray, hsl.length, hsn]
      refine pyIter_list_K F6 N6 ⟨_, (N6 _ (.head _)).1, rfl, _, rfl⟩ (fun I2 h7 F7 N7 nI2 lI2 zI2 iI2 itI2 => ?_)
      refine codeAny_mono (R := fun r s' => HidP (r = .ok .next ∧ ∃ h' m' tk' tv nt p3 ws ext', s' = { s₁ with heap := h', toks := tk' } ∧ Fr g0 L0 h' m' ∧ News g0 L0 h' ((td, listOf (List.toArray tv) nt) :: (I, o5) :: (pl, listOf (as.map Value.ref).toArray nl) :: (ca, listOf cv.toArray nc) :: ce4 :: ce3 :: ce2 :: ce1 :: ce48 :: ce55 :: (292, tabObj p3) :: ext') ∧ m' "piles" = some (.ref pl) ∧ m' "cells" = some (.ref ca) ∧ m' "told" = some (.ref td) ∧
        LamTab ⟨177, 24, 177, 47⟩ "_law_told.<locals>.<lambda>" p3 ext' ∧ StrsAre tv ws ∧ ws.length = 5 ∧ (∀ x ∈ ws, x ∈ due15) ∧ (∀ p ∈ ext, p ∈ ext') ∧ Off (td :: I :: [pl, ca, ce4.1, ce3.1, ce2.1, ce1.1, ce48.1, ce55.1, 292]) ext')) ?loop2 ?after2
      case loop2 =>
        refine codeAny_abs fun R9 hR9 => ?_
        refine for_KL (I := I2) (ax := D) (its := wsl.toArray) (lo := listOf wsl.toArray 0) rfl iI2 rfl ⟨_, rfl⟩ (fun i m' nw' g9 => g9 = s₁.gens ∧ m' "cells" = some (.ref ca) ∧ m' "piles" = some (.ref pl) ∧ m' "told" = some (.ref td) ∧ ∃ (tv : List Value) (nt : Nat) (p3 : Array Value) (ws : List Str) (ext' : List (Addr × Obj)),
          nw' = (td, listOf (List.toArray tv) nt) :: (I, o5) :: (pl, listOf (as.map Value.ref).toArray nl) :: (ca, listOf cv.toArray nc) :: ce4 :: ce3 :: ce2 :: ce1 :: ce48 :: ce55 :: (292, tabObj p3) :: ext' ∧ LamTab ⟨177, 24, 177, 47⟩ "_law_told.<locals>.<lambda>" p3 ext' ∧ StrsAre tv ws ∧ ws.length = i ∧ (∀ x ∈ ws, x ∈ due15) ∧ (∀ p ∈ ext, p ∈ ext') ∧ Off (td :: I :: [pl, ca, ce4.1, ce3.1, ce2.1, ce1.1, ce48.1, ce55.1, 292]) ext' ∧ (D, listOf wsl.toArray 0) ∈ ext') (fun i m nw g h => by
            refine absG fun G99 k99 => ?_
            obtain ⟨_, _, _, _, _, _, _, _, ext', rfl, _, _, _, _, _, _, hD⟩ := h
            refine k99.go ?_
            clear k99 G99
            exact (mTl 11 hD))
          lI2 zI2 itI2 F7 (newsPick [1, 2, 3, 4, 5, 6, 7, 8, 9, 10, 11, 0] 12 N7) (pick [1, 2, 3, 4, 5, 6, 7, 8, 9, 10, 11, 0] 12 nI2) ⟨rfl, rfl, rfl, rfl, exI5 [] 0 p3 [] ((D, listOf wsl.toArray 0) :: ext) ⟨rfl, ?lam, .nil, rfl, (fun _ h => nomatch h), fun p hp => .tail _ hp, ?off2, .head _⟩⟩ ?turn2 ?done2
        case lam => exact jL.mono fun p hp => .tail _ hp
        case off2 =>
          refine Off.cons (fun p hp => allC (Nat.ne_of_lt (lt_of_all lt.2.2.2.2.2.2.2.2.2.2 p hp)) (allC (hn5 p (mTl 9 hp)) fun c hc => jO p hp c hc)) ?_
          refine allC ?_ (allC ?_ (allC ?_ (allC ?_ (allC ?_ (allC ?_ (allC ?_ (allC ?_ (allC ?_ (allC ?_ (allC ?_ (fun _ h => nomatch h))))))))))) <;> k_ne
        case done2 =>
          intro m2 nw2 h8 g8 tk8 hJ8 F8 N8
          refine absG fun G99 k99 => ?_
          refine andE5 hJ8 fun e9z0 k1 k2 k3 h9z0 => ?_
          refine exE5 h9z0 fun tv nt q3 ws ext' h9z1 => ?_
          refine andE8 h9z1 fun e9z1 kL kS kl kw kE kO kD => ?_
          clear h9z1 h9z0 hJ8
          subst e9z0
          subst e9z1
          refine k99.go ?_
          clear k99 G99
          k_steps
          exact hR9 _ _ ⟨by first | rfl | trivial, _, _, _, tv, nt, q3, ws, ext', rfl, F8, N8, k2, k1, k3, kL, kS, by rw [kl, hwz], kw, kE, kO⟩
        case turn2 =>
          intro i v2 m2 nw2 h8 g8 tk8 o8 hi9 hv8 hJ8 F8 N8 hn8 S9 hS9 E9
          refine absG fun G99 k99 => ?_
          refine andE5 hJ8 fun e9z0 k1 k2 k3 h9z0 => ?_
          refine exE5 h9z0 fun tv nt q3 ws ext' h9z1 => ?_
          refine andE8 h9z1 fun e9z1 kL kS kl kw kE kO kD => ?_
          clear h9z1 h9z0 hJ8
          subst e9z0
          subst e9z1
          rw [known3w k1 k2 k3] at F8
          obtain ⟨c, hc9⟩ : ∃ c, sl[i]? = some c := ⟨_, List.getElem?_eq_getElem (by omega)⟩
          obtain ⟨tc, htc⟩ := hsl.get i c hc9
          have e2 : v2 = .int c tc := by
            have h1 : wsl[i]? = some v2 := by simpa using hv8
            rw [h1] at htc; exact Option.some.inj htc
          subst e2
          refine k99.go ?_
          clear k99 G99
          have hcr := hsb c (List.mem_of_getElem? hc9)
          k_steps
          unfold Stop
          refine' reply_ok _ _ _ _ _ _ _ _ _ _ _ _ _ _ _ _ _ _ c tc ?kB ?kF ?kX ?kN ?kT ?kk ?kd ?ku hcr ?kr
          (case kB => k_asm); (case kF => k_asm); (case kX => assumption); (case kN => k_asm); (case kT => k_asm); (case kk => exact rfl); (case kd => ktr_room); (case ku => first | ktr_units | (have hcL9 := cLine_is; (try simp only [units_under_make, units_in1, units_deeper, Around.mark_units, units_caller]); (try dsimp only [ktrTop]); omega))
          case kr =>
          intro tp nm r0 due ta tb' td' h9 tk9 hnm hok F9 N9 l9
          refine absG fun G99 k99 => ?_
          obtain ⟨f1, f2, f3, f4⟩ := reply_facts hnm hok
          refine k99.go ?_
          clear k99 G99
          have zt : @Ne Nat td I2 := hn8 _ (.head _)
          have zi : @Ne Nat I I2 := hn8 _ (.tail _ (.head _))
          have z292 : @Ne Nat 292 I2 := hn8 (292, tabObj q3) (mAt 10)
          have ltp : @LT.lt Nat _ 292 tp := l9 (292, tabObj q3) (mAt 11)
          have ltt : @LT.lt Nat _ td tp := l9 (td, listOf tv.toArray nt) (.tail _ (.head _))
          k_steps
          unfold Stop
          (with_reducible rename Fr g0 L0 _ _ => F10)
          (with_reducible rename News g0 L0 _ _ => N10)
          replace N10 : News g0 L0 _ ((292, tabObj q3) :: (tp, tupObj #[.str r0 ta, .str nm tb', .str due td']) :: (I2, o8) :: (td, listOf tv.toArray nt) :: (I, o5) :: (pl, listOf (as.map Value.ref).toArray nl) :: (ca, listOf cv.toArray nc) :: ce4 :: ce3 :: ce2 :: ce1 :: ce48 :: ce55 :: ext') := newsPick [12, 0, 1, 2, 3, 4, 5, 6, 7, 8, 9, 10, 11] 13 N10
          refine' told_ok _ _ _ _ _ _ _ _ _ _ _ _ _ _ _ _ _ _ r0 nm ta tb' q3 ((tp, tupObj #[.str r0 ta, .str nm tb', .str due td']) :: (I2, o8) :: (td, listOf tv.toArray nt) :: (I, o5) :: (pl, listOf (as.map Value.ref).toArray nl) :: (ca, listOf cv.toArray nc) :: ce4 :: ce3 :: ce2 :: ce1 :: ce48 :: ce55 :: ext') rfl rfl (by assumption) (by assumption) ?kB ?kF ?kX ?kN ?kT ?kk ?kd ?ku ?hr f3 f4 (kL.mono fun p hp => (mTl 12 hp)) ?kr
          (case kB => k_asm); (case kF => k_asm); (case kX => assumption); (case kN => k_asm); (case kT => k_asm); (case kk => exact rfl); (case kd => ktr_room); (case ku => first | ktr_units | (have hcL9 := cLine_is; (try simp only [units_under_make, units_in1, units_deeper, Around.mark_units, units_caller]); (try dsimp only [ktrTop]); omega))
          case hr =>
            exact allC (by k_ne) (allC (fun e => z292 e.symm) (allC (by k_ne) (allC (fun e => hn5 (292, tabObj p3) (mAt 8) e.symm) (allC (by k_ne) (allC zca (allC z4 (allC z3 (allC z2 (allC z1 (allC z48 (allC z55 fun p hp => kO.ne (by simp) p hp)))))))))))
          case kr =>
          intro h11 tk11 t11 q4 rest4 F11 N11 tab4 sub4 new4 or4
          rw [f1]
          refine absG fun G99 k99 => ?_
          obtain ⟨ext4, hN4, hL4, hS4, hO4⟩ : ∃ ext4, (∀ p ∈ ext4, p ∈ rest4) ∧ LamTab ⟨177, 24, 177, 47⟩ "_law_told.<locals>.<lambda>" q4 ext4 ∧ (∀ p ∈ ext', p ∈ ext4) ∧ Off (I2 :: td :: I :: [pl, ca, ce4.1, ce3.1, ce2.1, ce1.1, ce48.1, ce55.1, 292]) ext4 := by
            have kO2 : Off (I2 :: td :: I :: [pl, ca, ce4.1, ce3.1, ce2.1, ce1.1, ce48.1, ce55.1, 292]) ext' := fun p hp c hc => by
              rcases List.mem_cons.mp hc with rfl | hc
              · exact hn8 p (mTl 11 hp)
              · exact kO p hp c hc
            rcases or4 with ⟨rfl, rfl⟩ | ⟨q, rfl, hq, hq2, hq3⟩
            · exact ⟨ext', fun p hp => (mTl 12 hp), kL, fun p hp => hp, kO2⟩
            · refine ⟨q :: ext', fun p hp => ?_, hq.mono fun p hp => ?_, fun p hp => .tail _ hp, kO2.cons ?_⟩
              · revert p; exact (allC (.head _) (fun p hp => (mTl 13 hp)))
              · rw [List.mem_singleton.mp hp]; exact .head _
              · exact allC (Nat.ne_of_gt (hq3 _ (.tail _ (.head _)))) (allC (Nat.ne_of_gt (hq3 _ (mAt 2))) (allC (Nat.ne_of_gt (hq3 _ (mAt 3))) (allC (Nat.ne_of_gt (hq3 _ (mAt 4))) (allC (Nat.ne_of_gt (hq3 _ (mAt 5))) (allC (Nat.ne_of_gt (hq3 _ (mAt 6))) (allC (Nat.ne_of_gt (hq3 _ (mAt 7))) (allC (Nat.ne_of_gt (hq3 _ (mAt 8))) (allC (Nat.ne_of_gt (hq3 _ (mAt 9))) (allC (Nat.ne_of_gt (hq3 ce48 (mAt 10))) (allC (Nat.ne_of_gt (hq3 ce55 (mAt 11))) (allC (Nat.ne_of_gt hq2) (fun _ h => nomatch h))))))))))))
          refine k99.go ?_
          clear k99 G99
          replace N11 : News g0 L0 h11 ((td, listOf tv.toArray nt) :: (I2, o8) :: (I, o5) :: (pl, listOf (as.map Value.ref).toArray nl) :: (ca, listOf cv.toArray nc) :: ce4 :: ce3 :: ce2 :: ce1 :: ce48 :: ce55 :: (292, tabObj q4) :: ext4) := fun p hp => N11 p (by
            revert p; exact (allC (.tail _ (sub4 _ (mAt 2))) (allC (.tail _ (sub4 _ (.tail _ (.head _)))) (allC (.tail _ (sub4 _ (mAt 3))) (allC (.tail _ (sub4 _ (mAt 4))) (allC (.tail _ (sub4 _ (mAt 5))) (allC (.tail _ (sub4 _ (mAt 6))) (allC (.tail _ (sub4 _ (mAt 7))) (allC (.tail _ (sub4 _ (mAt 8))) (allC (.tail _ (sub4 _ (mAt 9))) (allC (.tail _ (sub4 _ (mAt 10))) (allC (.tail _ (sub4 _ (mAt 11))) (allC (.head _) (fun p hp => (.tail _ (hN4 p hp))))))))))))))))
          have n4 := hO4.ne (c := td) (by simp)
          have htl : tv.length = i := kS.length.trans kl
          (try clear F10); (try clear N10); clear tab4 sub4 new4 or4 hN4
          k_steps
          unfold Stop
          (with_reducible rename News g0 L0 _ _ => N13)
          rw [List.push_toArray] at N13
          refine kde_neg (vs := tv ++ [Value.str due t11]) (j := tv.length) (v := Value.str due t11) ⟨_, (N13 _ (.head _)).1, rfl, _, rfl⟩ (by decide) (by decide) (by simp [seqIndex?]; exact idx_last _) (by simp) ?_ (by with_unfolding_all rfl)
          k_steps
          · (with_reducible rename (_ != _) = true => hne9)
            exact absurd hne9 (by simp)
          (with_reducible rename Fr g0 L0 _ _ => F14)
          (with_reducible rename News g0 L0 _ _ => N14)
          refine hS9 _ (stepK (news := (td, listOf (tv ++ [Value.str due t11]).toArray (nt + 1)) :: (I, o5) :: (pl, listOf (as.map Value.ref).toArray nl) :: (ca, listOf cv.toArray nc) :: ce4 :: ce3 :: ce2 :: ce1 :: ce48 :: ce55 :: (292, tabObj q4) :: ext4) F14 (fun p hp => N14 p ?_) (fun p hp => ?_) ⟨rfl, rfl, rfl, rfl, exI5 (tv ++ [Value.str due t11]) (nt + 1) q4 (ws ++ [due]) ext4 ⟨rfl, hL4, strsAre_snoc kS due t11, by simp [kl], fun x hx => ?_, fun p hp => hS4 p (kE p hp), fun p hp c hc => hO4 p hp c (.tail _ hc), hS4 _ kD⟩⟩)
          · revert p; exact (allC (.tail _ (.head _)) (allC (.head _) (fun p hp => .tail _ (.tail _ hp))))
          · revert p; exact (allC (zt) (allC (zi) (allC (hn8 _ (mAt 2)) (allC (hn8 _ (mAt 3)) (allC (hn8 _ (mAt 4)) (allC (hn8 _ (mAt 5)) (allC (hn8 _ (mAt 6)) (allC (hn8 _ (mAt 7)) (allC (hn8 ce48 (mAt 8)) (allC (hn8 ce55 (mAt 9)) (allC (z292) (fun p hp => (hO4 p hp I2 (.head _))))))))))))))
          · rcases List.mem_append.mp hx with hx | hx
            · exact kw x hx
            · rw [List.mem_singleton.mp hx]; exact f2
      case after2 =>
        rintro r s9 ⟨hR8⟩
        refine absG fun G99 k99 => ?_
        refine andE2 hR8 fun e9z0 h9z0 => ?_
        refine exE8 h9z0 fun h' m' tk' tv nt q3 ws ext' h9z1 => ?_
        refine andE12 h9z1 fun e9z1 F8 N8 e1 e2 e3 kL kS kl kw kE kO => ?_
        clear h9z1 h9z0 hR8
        subst e9z0
        subst e9z1
        refine k99.go ?_
        clear k99 G99
        rw [known3w e1 e2 e3] at F8
        (try clear F7); (try clear N7)
        have n5 := kO.ne (c := pl) (by simp)
        have zpI : @Ne Nat pl I := hn5 _ (.head _)
        have hasl : as.length = k := jR.1.trans jl
        have hk2 : k < 2 := hk9
        have hav : (as.map Value.ref).length = k := by rw [List.length_map]; exact hasl
        k_steps
        (with_reducible rename Fr g0 L0 _ _ => F9)
        (with_reducible rename News g0 L0 _ _ => N9)
        have U9 : UpdF pl (listOf (as.map Value.ref).toArray nl) ((td, listOf tv.toArray nt) :: (I, o5) :: (pl, listOf (as.map Value.ref).toArray nl) :: (ca, listOf cv.toArray nc) :: ce4 :: ce3 :: ce2 :: ce1 :: ce48 :: ce55 :: (292, tabObj q3) :: ext') (fun o => (td, listOf tv.toArray nt) :: (I, o5) :: (pl, o) :: (ca, listOf cv.toArray nc) :: ce4 :: ce3 :: ce2 :: ce1 :: ce48 :: ce55 :: (292, tabObj q3) :: ext') :=
          UpdF.tail (Nat.ne_of_gt lt.2.1) (UpdF.tail (fun e => zpI e.symm) (UpdF.head fun p hp => by
            revert p; exact (allC (Nat.ne_of_lt lP.1) (allC (Nat.ne_of_lt lP.2.1) (allC (Nat.ne_of_lt lP.2.2.1) (allC (Nat.ne_of_lt lP.2.2.2.1) (allC (Nat.ne_of_lt lP.2.2.2.2.1) (allC (Nat.ne_of_lt lP.2.2.2.2.2.1) (allC (Nat.ne_of_lt lP.2.2.2.2.2.2.1) (allC (Nat.ne_of_lt lP.2.2.2.2.2.2.2) (fun p hp => (n5 p hp))))))))))))
        refine append_K F9 N9 U9 (by simp only [List.size_toArray]; omega) fun h10 n10 F10 N10 => ?_
        (try clear F9); (try clear N9); clear U9
        rw [show (as.map Value.ref).toArray.push (.ref td) = ((as ++ [td]).map Value.ref).toArray by simp] at N10
        k_steps
        (with_reducible rename Fr g0 L0 _ _ => F9)
        (with_reducible rename News g0 L0 _ _ => N9)
        refine hS9 _ (stepK (news := (pl, listOf ((as ++ [td]).map Value.ref).toArray n10) :: (ca, listOf cv.toArray nc) :: ce4 :: ce3 :: ce2 :: ce1 :: ce48 :: ce55 :: (292, tabObj q3) :: (td, listOf tv.toArray nt) :: ext') F9 (fun p hp => N9 p ?_) (fun p hp => ?_) ⟨rfl, rfl, rfl, exI5 (as ++ [td]) n10 q3 (wss ++ [ws]) ((td, listOf tv.toArray nt) :: ext') ⟨rfl, kL.mono fun p hp => .tail _ hp, strRows_snoc (jR.up fun p hp => .tail _ (kE p hp)) (.head _) kS, by simp [jl], fun x hx => ?_, Off.cons (fun p hp c hc => kO p hp c (.tail _ (.tail _ hc))) fun c hc => ?_, .tail _ (kE _ jT)⟩⟩)
        · revert p; exact (allC ((.tail _ (.head _))) (allC ((mAt 2)) (allC ((mAt 3)) (allC ((mAt 4)) (allC ((mAt 5)) (allC ((mAt 6)) (allC ((mAt 7)) (allC ((mAt 8)) (allC ((mAt 9)) (allC ((mAt 10)) (allC (.head _) (fun p hp => ((mTl 11 hp))))))))))))))
        · revert p; exact (allC (zpI) (allC (hn5 _ (.tail _ (.head _))) (allC (hn5 _ (mAt 2)) (allC (hn5 _ (mAt 3)) (allC (hn5 _ (mAt 4)) (allC (hn5 _ (mAt 5)) (allC (hn5 ce48 (mAt 6)) (allC (hn5 ce55 (mAt 7)) (allC (hn5 (292, tabObj p3) (mAt 8)) (allC (Nat.ne_of_gt lt.1) (fun p hp => (kO p hp I (by simp)))))))))))))
        · rcases List.mem_append.mp hx with hx | hx
          · exact jw x hx
          · rw [List.mem_singleton.mp hx]; exact ⟨kl, kw⟩
        · revert c
          refine allC ?_ (allC ?_ (allC ?_ (allC ?_ (allC ?_ (allC ?_ (allC ?_ (allC ?_ (allC ?_ (fun _ h => nomatch h))))))))) <;> k_ne
  case after =>
    rintro r s9 ⟨hR8⟩
    refine absG fun G99 k99 => ?_
    refine andE2 hR8 fun e9z0 h9z0 => ?_
    refine exE8 h9z0 fun h' m' tk' as nl p3 wss ext h9z1 => ?_
    refine andE10 h9z1 fun e9z1 F5 N5 e1 e2 jL jR jl jw jO => ?_
    clear h9z1 h9z0 hR8
    subst e9z0
    subst e9z1
    subst hce4 hce3 hce2 hce1 hce48 hce55
    refine k99.go ?_
    clear k99 G99
    (try clear F4); (try clear N4)
    have hal : as.length = 2 := jR.1.trans jl
    have hwr : 0 ≤ 4 + c0.fmod 6 ∧ 4 + c0.fmod 6 ≤ 9 := by
      have h1 := Int.fmod_nonneg_of_pos c0 (b := 6) (by decide)
      have h2 := Int.fmod_lt_of_pos c0 (b := 6) (by decide)
      omega
    have hO6 : Off [L0 + 1 + 1 + 1 + 1, L0 + 1 + 1 + 1, L0 + 1 + 1, L0 + 1, 148, 155] ((pl, listOf (as.map Value.ref).toArray nl) :: (292, tabObj p3) :: ext) := by
      refine absG fun G99 k99 => ?_
      obtain ⟨_, x1, x2, x3, x4, x5, x6, _⟩ := lP
      refine k99.go ?_
      clear k99 G99
      refine Off.cons (Off.cons (jO.sub fun c hc => pick_mem (is := [2, 3, 4, 5, 6, 7]) (k := 9) hc) ?_) (allC (Nat.ne_of_gt x1) (allC (Nat.ne_of_gt x2) (allC (Nat.ne_of_gt x3) (allC (Nat.ne_of_gt x4) (allC (Nat.ne_of_gt x5) (allC (Nat.ne_of_gt x6) fun _ h => nomatch h))))))
      have y := l0.2.2
      exact allC (by k_ne) (allC (by k_ne) (allC (by k_ne) (allC (by k_ne) (allC (show @Ne Nat 292 148 by decide) (allC (show @Ne Nat 292 155 by decide) fun _ h => nomatch h)))))
    refine rest1_ok g0 L0 fa cd _ m' _ _ pl as nl wss (4 + c0.fmod 6) tw ow c2 c3 c4 _ _ _ #[] #[] ((pl, listOf (as.map Value.ref).toArray nl) :: (292, tabObj p3) :: ext) B0 X0 T0 F5 (newsPick [2, 3, 4, 5, 6, 7, 0, 8] 9 N5) e1 hdw d2 d3 d4 hwr (.head _) hal (jR.up fun p hp => mTl 2 hp) jw hO6 ⟨l0.1, l0.2.1⟩ ?_
    intro h9 tk9 m9 vl W0 al lv was als rs oL oV ex' F9 N9 b1 b2 b3 dL dV hvl hO9 hS hsub
    refine loop_ok g0 L0 fa cd _ m9 _ _ pl W0 al lv vl as was als rs wss (4 + c0.fmod 6) tw ow oL oV c4 _ #[] #[] ex' N9 B0 X0 T0 F9 b1 b2 b3 hdw dL dV d4 hwr hS hO9 ⟨l0.1, l0.2.1, hvl⟩ hgB trivial trivial ?_
    intro h10 tk10 m10 gs q1 q2 ex2 F10 N10 hsub2 G10 U1 U2
    exact ⟨rfl, fun b o e => F10.keep b o e, rfl, G10, ⟨_, (N10 _ (.head _)).1⟩, ⟨_, (N10 _ (mAt 1)).1⟩, ⟨p3, (N10 _ (mTl 2 (hsub2 _ (hsub _ (mAt 1))))).1⟩, trivial⟩
end Mine
end

section
open PySem PySem.W PyProof.Rows PySem.Calls
set_option maxRecDepth 100000
set_option maxHeartbeats 8000000
namespace Mine
theorem B.tw10089474679811590472 : True := trivial
theorem B.tw10177317620263268957 : True := trivial
theorem B.tw10179237981328532924 : True := trivial
theorem B.tw10220408324761306947 : True := trivial
theorem B.tw10285295670597603176 : True := trivial
theorem B.tw10323656698988229431 : True := trivial
theorem B.tw10489588589657508781 : True := trivial
theorem B.tw10492404630394949901 : True := trivial
theorem B.tw10497217167127282992 : True := trivial
theorem B.tw10508433644236865962 : True := trivial
theorem B.tw10554347645216557050 : True := trivial
theorem B.tw10572416816663019269 : True := trivial
theorem B.tw10661980821076587465 : True := trivial
theorem B.tw10717045092395526309 : True := trivial
theorem B.tw10748351102960627608 : True := trivial
theorem B.tw10791961881760615182 : True := trivial
theorem B.tw10792468354003070942 : True := trivial
theorem B.tw10887349122087847141 : True := trivial
theorem B.tw10972009193065733447 : True := trivial
theorem B.tw11055470975833263886 : True := trivial
theorem B.tw11090734237767284875 : True := trivial
theorem B.tw11295425700488197961 : True := trivial
theorem B.tw11320875860840319269 : True := trivial
theorem B.tw11354899650116473697 : True := trivial
theorem B.tw11389604556438737324 : True := trivial
theorem B.tw11454349947212661587 : True := trivial
theorem B.tw11578855760327143477 : True := trivial
theorem B.tw11603141558024377720 : True := trivial
theorem B.tw11660002050070091056 : True := trivial
theorem B.tw11661611564221125545 : True := trivial
theorem B.tw11677673312815556166 : True := trivial
theorem B.tw11724867453517339193 : True := trivial
theorem B.tw1177718885715681615 : True := trivial
theorem B.tw11838923691164318870 : True := trivial
theorem B.tw11859584034098189760 : True := trivial
theorem B.tw11896118383601504380 : True := trivial
theorem B.tw11986311100409718848 : True := trivial
theorem B.tw11990339435055608759 : True := trivial
theorem B.tw12093040125211992878 : True := trivial
theorem B.tw12269664604480908846 : True := trivial
theorem B.tw12284069974205528634 : True := trivial
theorem B.tw12377015431938989448 : True := trivial
theorem B.tw12384669883427244090 : True := trivial
theorem B.tw12443526568746757953 : True := trivial
theorem B.tw12464197759220812154 : True := trivial
theorem B.tw12480454397427654 : True := trivial
theorem B.tw12492283041164848 : True := trivial
theorem B.tw12523049097089108571 : True := trivial
theorem B.tw12536486947971849845 : True := trivial
theorem B.tw12557909932726654092 : True := trivial
theorem B.tw12657572176914869528 : True := trivial
theorem B.tw12681702822611529190 : True := trivial
theorem B.tw12703517946347404234 : True := trivial
theorem B.tw12743391119851937059 : True := trivial
theorem B.tw12751652432236875267 : True := trivial
theorem B.tw12790320986199629506 : True := trivial
theorem B.tw12794192770124627291 : True := trivial
theorem B.tw1283007917563471580 : True := trivial
theorem B.tw12886205427620427558 : True := trivial
theorem B.tw12889660551113251947 : True := trivial
theorem B.tw12943308651117860900 : True := trivial
theorem B.tw12956918856354258234 : True := trivial
theorem B.tw13003313550066055667 : True := trivial
theorem B.tw13003428201065828441 : True := trivial
theorem B.tw1319771030785509501 : True := trivial
theorem B.tw13250765234917723968 : True := trivial
theorem B.tw13261934171317199061 : True := trivial
theorem B.tw13265633847935965992 : True := trivial
theorem B.tw13286321384314886288 : True := trivial
theorem B.tw13296750889968519392 : True := trivial
theorem B.tw13389796384553682785 : True := trivial
theorem B.tw13490451404095601285 : True := trivial
theorem B.tw13558606914297077652 : True := trivial
theorem B.tw13568466122411312194 : True := trivial
theorem B.tw13780379143109178359 : True := trivial
theorem B.tw13787432868319395841 : True := trivial
theorem B.tw13796556950410695959 : True := trivial
theorem B.tw13864866687857372428 : True := trivial
theorem B.tw13904701635872465692 : True := trivial
theorem B.tw14011967965601350848 : True := trivial
theorem B.tw14060722623453977507 : True := trivial
theorem B.tw14132657782587125500 : True := trivial
theorem B.tw14139381099007951879 : True := trivial
theorem B.tw14173254336391958423 : True := trivial
theorem B.tw14268151835753881696 : True := trivial
theorem B.tw1432377624196954735 : True := trivial
theorem B.tw14361773745350592990 : True := trivial
theorem B.tw14366070413937122120 : True := trivial
theorem B.tw14440540362108255248 : True := trivial
theorem B.tw1445983715389650825 : True := trivial
theorem B.tw14614835107347700356 : True := trivial
theorem B.tw14658779775047981640 : True := trivial
theorem B.tw14659476131200527668 : True := trivial
theorem B.tw14704290204115668516 : True := trivial
theorem B.tw14744458457070637898 : True := trivial
theorem B.tw14815880335191261468 : True := trivial
theorem B.tw15009185033193485950 : True := trivial
theorem B.tw1503719492366922574 : True := trivial
theorem B.tw15071934634799560219 : True := trivial
theorem B.tw15092223295337064537 : True := trivial
theorem B.tw15129378416178215444 : True := trivial
theorem B.tw15130997662743733619 : True := trivial
theorem B.tw15144860129335850766 : True := trivial
theorem B.tw15246789580183733145 : True := trivial
theorem B.tw15249594771805386178 : True := trivial
theorem B.tw15255829766570438945 : True := trivial
theorem B.tw15281506660070274871 : True := trivial
theorem B.tw1529740459113112662 : True := trivial
theorem B.tw15306835066145847180 : True := trivial
theorem B.tw15337599410363728951 : True := trivial
theorem B.tw15427301579790383996 : True := trivial
theorem B.tw15431656227568411085 : True := trivial
theorem B.tw15481567189227813113 : True := trivial
theorem B.tw15605803049854934773 : True := trivial
theorem B.tw15638377566525582802 : True := trivial
theorem B.tw1571604684330424315 : True := trivial
theorem B.tw15748229318723010419 : True := trivial
theorem B.tw15768207990414036992 : True := trivial
theorem B.tw15833650749820897501 : True := trivial
theorem B.tw15942162802399773787 : True := trivial
theorem B.tw15986489793653670815 : True := trivial
theorem B.tw15996121149885630663 : True := trivial
theorem B.tw16046429321124744981 : True := trivial
theorem B.tw16171458674503467206 : True := trivial
theorem B.tw16225484194433597879 : True := trivial
theorem B.tw16247277523395281136 : True := trivial
theorem B.tw16268117744809659415 : True := trivial
theorem B.tw16373472458488436389 : True := trivial
theorem B.tw16386264621075785428 : True := trivial
theorem B.tw16400775237541570073 : True := trivial
theorem B.tw16477023087325906980 : True := trivial
theorem B.tw1655166090140291814 : True := trivial
theorem B.tw16568221564886108750 : True := trivial
theorem B.tw16645238833724713043 : True := trivial
theorem B.tw16671474239026337381 : True := trivial
theorem B.tw16891959880909523156 : True := trivial
theorem B.tw16982573532728118938 : True := trivial
theorem B.tw1698361778849995350 : True := trivial
theorem B.tw17005790581115992509 : True := trivial
theorem B.tw17017211327051037873 : True := trivial
theorem B.tw17060175096040295307 : True := trivial
theorem B.tw17093061902430468571 : True := trivial
theorem B.tw17173031723355808543 : True := trivial
theorem B.tw17236074260281297966 : True := trivial
theorem B.tw17428220391429013468 : True := trivial
theorem B.tw17577958509735278020 : True := trivial
theorem B.tw17694373872383825443 : True := trivial
theorem B.tw17722298907813530583 : True := trivial
theorem B.tw17832935298201798677 : True := trivial
theorem B.tw17838633032414632908 : True := trivial
theorem B.tw1784956025973410829 : True := trivial
theorem B.tw1789192341097581846 : True := trivial
theorem B.tw17991890257989784691 : True := trivial
theorem B.tw18016176358065213209 : True := trivial
theorem B.tw18100138199216772820 : True := trivial
theorem B.tw18116678364564246046 : True := trivial
theorem B.tw18119739621969545039 : True := trivial
theorem B.tw18183396476845808492 : True := trivial
theorem B.tw18270698251450568053 : True := trivial
theorem B.tw18330805165606501716 : True := trivial
theorem B.tw18384792339407030909 : True := trivial
theorem B.tw1945451411696294056 : True := trivial
theorem B.tw1997760394049168889 : True := trivial
theorem B.tw2060166407881906102 : True := trivial
theorem B.tw2119263768909654219 : True := trivial
theorem B.tw2222841839273694285 : True := trivial
theorem B.tw2224804083160101231 : True := trivial
theorem B.tw2347359971378521570 : True := trivial
theorem B.tw2388319435910168731 : True := trivial
theorem B.tw2407052984911770029 : True := trivial
theorem B.tw25613421682635110 : True := trivial
theorem B.tw2586472647602362920 : True := trivial
theorem B.tw2589974865622641164 : True := trivial
theorem B.tw2713378872033851384 : True := trivial
theorem B.tw2794073994037423417 : True := trivial
theorem B.tw2816548477905038465 : True := trivial
theorem B.tw2874097509446653005 : True := trivial
theorem B.tw2925140840669013239 : True := trivial
theorem B.tw3020405563175207511 : True := trivial
theorem B.tw3103953706125029134 : True := trivial
theorem B.tw3174555117474785422 : True := trivial
theorem B.tw3244320632414502457 : True := trivial
theorem B.tw3329980726102656699 : True := trivial
theorem B.tw3369911808420463119 : True := trivial
theorem B.tw3520923926740596393 : True := trivial
theorem B.tw3585638617343173828 : True := trivial
theorem B.tw3631798443804687799 : True := trivial
theorem B.tw3632645068159774715 : True := trivial
theorem B.tw372854338926084873 : True := trivial
theorem B.tw4035633109663458173 : True := trivial
theorem B.tw4041855325563582220 : True := trivial
theorem B.tw4175829799192489469 : True := trivial
theorem B.tw4232697296808455019 : True := trivial
theorem B.tw4240212033808422559 : True := trivial
theorem B.tw4368835470943970930 : True := trivial
theorem B.tw4402718580706000678 : True := trivial
theorem B.tw4409085464425103062 : True := trivial
theorem B.tw4466108362477558907 : True := trivial
theorem B.tw4590259607258654227 : True := trivial
theorem B.tw460719836418193955 : True := trivial
theorem B.tw4621328970552972430 : True := trivial
theorem B.tw4692680206531483290 : True := trivial
theorem B.tw4727574710570643423 : True := trivial
theorem B.tw4730901206717647245 : True := trivial
theorem B.tw4734046712296378740 : True := trivial
theorem B.tw4767627068509862618 : True := trivial
theorem B.tw4805495131809263585 : True := trivial
theorem B.tw4837065443481422227 : True := trivial
theorem B.tw489477340247774318 : True := trivial
theorem B.tw4896372979568355916 : True := trivial
theorem B.tw4897620059140540423 : True := trivial
theorem B.tw4939316411189510062 : True := trivial
theorem B.tw4970504258115131687 : True := trivial
theorem B.tw5034956274416447129 : True := trivial
theorem B.tw5181881395736998155 : True := trivial
theorem B.tw5265744636111756572 : True := trivial
theorem B.tw530136883905538010 : True := trivial
theorem B.tw538567601625219300 : True := trivial
theorem B.tw5386246078171907938 : True := trivial
theorem B.tw5387307552396167900 : True := trivial
theorem B.tw5388288292570354540 : True := trivial
theorem B.tw5399426987384884353 : True := trivial
theorem B.tw5485252241573979626 : True := trivial
theorem B.tw5509860243329773666 : True := trivial
theorem B.tw5539201738599390035 : True := trivial
theorem B.tw5567481065953645968 : True := trivial
theorem B.tw562139208012569715 : True := trivial
theorem B.tw5629294707740938462 : True := trivial
theorem B.tw5641229717668374149 : True := trivial
theorem B.tw5667192619693409348 : True := trivial
theorem B.tw5698334274227438152 : True := trivial
theorem B.tw5737404111922234692 : True := trivial
theorem B.tw580067846255852210 : True := trivial
theorem B.tw5841643116673192182 : True := trivial
theorem B.tw6000837678624031572 : True := trivial
theorem B.tw6002811261037623791 : True := trivial
theorem B.tw6050893516781194374 : True := trivial
theorem B.tw6188248243093622265 : True := trivial
theorem B.tw6244362018255890096 : True := trivial
theorem B.tw6362431466584019983 : True := trivial
theorem B.tw6375248482435805025 : True := trivial
theorem B.tw6406852054120204940 : True := trivial
theorem B.tw6423173141260718100 : True := trivial
theorem B.tw6461461228531598803 : True := trivial
theorem B.tw6528410311527465163 : True := trivial
theorem B.tw6541956303822123077 : True := trivial
theorem B.tw6563208827103488861 : True := trivial
theorem B.tw6580132824849791666 : True := trivial
theorem B.tw6620670018314582691 : True := trivial
theorem B.tw6634556271697111932 : True := trivial
theorem B.tw6914446334101567588 : True := trivial
theorem B.tw6920909049506475141 : True := trivial
theorem B.tw6992469451677202975 : True := trivial
theorem B.tw7097137924546038233 : True := trivial
theorem B.tw7285925523967870081 : True := trivial
theorem B.tw7315707907201532259 : True := trivial
theorem B.tw7427066610083594932 : True := trivial
theorem B.tw743194650089363773 : True := trivial
theorem B.tw7459657692133575920 : True := trivial
theorem B.tw7484836004379659056 : True := trivial
theorem B.tw7678095124516746449 : True := trivial
theorem B.tw7844656838453875454 : True := trivial
theorem B.tw7928893220553213603 : True := trivial
theorem B.tw7987897763646488800 : True := trivial
theorem B.tw7989692684477795223 : True := trivial
theorem B.tw8102554749493591456 : True := trivial
theorem B.tw8168639443913480595 : True := trivial
theorem B.tw8326683745283059538 : True := trivial
theorem B.tw8328323870571477440 : True := trivial
theorem B.tw8518163376087980715 : True := trivial
theorem B.tw8551748394937926969 : True := trivial
theorem B.tw8624585324989841635 : True := trivial
theorem B.tw8637287590567985906 : True := trivial
theorem B.tw8709440078288507332 : True := trivial
theorem B.tw8711204252725399751 : True := trivial
theorem B.tw8720139501271006233 : True := trivial
theorem B.tw8777479452107067761 : True := trivial
theorem B.tw885752261251326096 : True := trivial
theorem B.tw8880245517886254635 : True := trivial
theorem B.tw8888880638662869103 : True := trivial
theorem B.tw8923617744729575287 : True := trivial
theorem B.tw9039550817190094368 : True := trivial
theorem B.tw9048777494781583866 : True := trivial
theorem B.tw9096632815637761912 : True := trivial
theorem B.tw9120760051428613909 : True := trivial
theorem B.tw9158616891294254777 : True := trivial
theorem B.tw9401270763089301133 : True := trivial
theorem B.tw9409774536056234607 : True := trivial
theorem B.tw9460766622545580948 : True := trivial
theorem B.tw9495463799465038660 : True := trivial
theorem B.tw9543266244898339016 : True := trivial
theorem B.tw9605465819179990382 : True := trivial
theorem B.tw9626174638144951009 : True := trivial
theorem B.tw9650675860710402623 : True := trivial
theorem B.tw9667128909866157004 : True := trivial
theorem B.tw968808759760053051 : True := trivial
theorem B.tw9693412884087387044 : True := trivial
theorem B.tw9768745252814628950 : True := trivial
theorem B.tw977221240965400013 : True := trivial
theorem B.tw9772221216864000767 : True := trivial
theorem B.tw9817340979907031219 : True := trivial
theorem B.tw9845790549323963213 : True := trivial
theorem B.tw9870447999007132089 : True := trivial
set_option Elab.async true
theorem B : PySem.Challenge.rw_wu0081_01.Holds := by
  w_on
  o_law
  o_head (kmHook Mine.top.heap_1 Mine.top.addrs addrsE [148, 155, 292])
  case hw => w_witness2
  exact walk3
set_option Elab.async false
end Mine
end
end
theorem PySem.Challenge.cw_wu0081_01_holds : PySem.Challenge.rw_wu0081_01.Holds :=
  Mine.B

