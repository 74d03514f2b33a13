import PyProof.Rows.All
import Wide.All
import OpenK.AllK
import Wide.FinOn
import PyProof.ExcArgsOwn
import PyProof.ExcAttrAll.Exception
import KE.KSortKey
import KE.KSortTup
import KE.KItemsList
import PySem.Challenge.RW_ac0033_01
set_option linter.all false
set_option Elab.async false
set_option genSizeOf false
set_option genSizeOfSpec false
set_option genInjectivity false
set_option bootstrap.genMatcherCode false
set_option maxRecDepth 100000
namespace Mine
inductive SV where
  | none | bool (b : Bool) | int (i : Int) | sint (j : Nat) | str (n : Nat) | sstr (j : Nat)
  | cstr (n t : Nat) | top (a : Nat) | blt (n : Nat) | ref (i : Nat) | opq (j : Nat)
inductive SObj where
  | list (xs : List SV) | tup (xs : List SV) | dict (es : List (Nat × SV)) | adict (j : Nat) | alist (j : Nat) | apairs (j : Nat)
  | inst (C d : Nat) | cell (v : Option SV) | fn (k : Nat) (cs : List (Nat × Nat)) | bm (f : Nat) (self : SV)
  | iter (l i : Nat) | rng (a b : Int) | riter (a b : Int) | exc (C d : Nat) | edict (es : List (Nat × SV)) | pin | dead
inductive IE where
  | bad | none | tru | fls | int (i : Int) | str (n : Nat) | loc (n : Nat) | cel (n : Nat) | fre (n : Nat) | glob (n : Nat)
  | attr (e : IE) (a : Nat) | sub (e i : IE) | call (f : IE) (args : List IE) | mcall (o : IE) (a : Nat) (args : List IE) (kws : List (Nat × IE))
  | lam (k : Nat) | comp (elt : IE) (x : Nat) (it : IE) (cond : Option IE) (fs : List Nat) | cmp (o : Nat) (l r : IE) | bop (isAnd : Bool) (l : List IE) | not (e : IE)
  | bin (o : Nat) (l r : IE) | dict (ks vs : List IE) | list (l : List IE) | tup (l : List IE) | ite (c a b : IE) | srt (d : IE)
inductive TG where
  | tn (n : Nat) (cell : Bool) | ta (e : IE) (a : Nat) | ts (e i : IE) | tt (l : List TG)
inductive IS where
  | bad | expr (e : IE) | asgn (ts : List TG) (e : IE) | swap (ps : List Nat) (l : List IE) | ret (e : Option IE) | pass | ife (c : IE) (a b : List IS)
  | for_ (t : TG) (it : IE) (b : List IS) | tryN (b o : List IS) | tryB (b h o : List IS) | tryA (g x : Nat) (b h o : List IS) | tryF (b f : List IS)
  | feed (it : IE) (x y : Nat) | copy (x y u v : Nat) | raise (e : IE) | reraise | delsl (e : IE) | defn (x k : Nat)
structure IFun where
  addr : Nat
  params : List Nat
  cells : List Nat
  dflts : List (Nat × SV)
  body : List IS
structure ICode where
  params : List Nat
  frees : List Nat
  lam : Option IE
  body : List IS
inductive CA where
  | fn (a : Nat) | val (v : SV) | obj
inductive Row where
  | iop (o : Nat) (a b r : SV)
  | icmp (o : Nat) (a b : SV) (r : Bool)
  | itos (a r : SV)
  | cat (a b r : SV)
  | dput (d : Option Nat) (k v : SV) (d' : Nat)
  | dget (d : Nat) (k dflt r : SV)
  | dlen (d : Nat) (r : SV)
  | lget (l : Nat) (k r : SV)
  | llen (l : Nat) (r : SV)
  | dapp (d : Nat) (xs ys : List SV)
structure PT where
  funs : List IFun
  codes : List ICode
  classes : List (Nat × List (Nat × CA))
  globs : List (Nat × SV)
noncomputable def SV.sel {β : Type} (o : SV) (n : β) (none' : β := n) (bool' : Bool → β := fun _ => n) (int' : Int → β := fun _ => n) (sint' : Nat → β := fun _ => n) (str' : Nat → β := fun _ => n) (sstr' : Nat → β := fun _ => n) (cstr' : Nat → Nat → β := fun _ _ => n) (top' : Nat → β := fun _ => n) (blt' : Nat → β := fun _ => n) (ref' : Nat → β := fun _ => n) (opq' : Nat → β := fun _ => n) : β := match o with
  | .none => none'
  | .bool x0 => bool' x0
  | .int x0 => int' x0
  | .sint x0 => sint' x0
  | .str x0 => str' x0
  | .sstr x0 => sstr' x0
  | .cstr x0 x1 => cstr' x0 x1
  | .top x0 => top' x0
  | .blt x0 => blt' x0
  | .ref x0 => ref' x0
  | .opq x0 => opq' x0
noncomputable def SObj.sel {β : Type} (o : SObj) (n : β) (list' : (List SV) → β := fun _ => n) (tup' : (List SV) → β := fun _ => n) (dict' : (List (Nat × SV)) → β := fun _ => n) (adict' : Nat → β := fun _ => n) (alist' : Nat → β := fun _ => n) (apairs' : Nat → β := fun _ => n) (inst' : Nat → Nat → β := fun _ _ => n) (cell' : (Option SV) → β := fun _ => n) (fn' : Nat → (List (Nat × Nat)) → β := fun _ _ => n) (bm' : Nat → SV → β := fun _ _ => n) (iter' : Nat → Nat → β := fun _ _ => n) (rng' : Int → Int → β := fun _ _ => n) (riter' : Int → Int → β := fun _ _ => n) (exc' : Nat → Nat → β := fun _ _ => n) (edict' : (List (Nat × SV)) → β := fun _ => n) (pin' : β := n) (dead' : β := n) : β := match o with
  | .list x0 => list' x0
  | .tup x0 => tup' x0
  | .dict x0 => dict' x0
  | .adict x0 => adict' x0
  | .alist x0 => alist' x0
  | .apairs x0 => apairs' x0
  | .inst x0 x1 => inst' x0 x1
  | .cell x0 => cell' x0
  | .fn x0 x1 => fn' x0 x1
  | .bm x0 x1 => bm' x0 x1
  | .iter x0 x1 => iter' x0 x1
  | .rng x0 x1 => rng' x0 x1
  | .riter x0 x1 => riter' x0 x1
  | .exc x0 x1 => exc' x0 x1
  | .edict x0 => edict' x0
  | .pin => pin'
  | .dead => dead'
noncomputable def Row.sel {β : Type} (o : Row) (n : β) (iop' : Nat → SV → SV → SV → β := fun _ _ _ _ => n) (icmp' : Nat → SV → SV → Bool → β := fun _ _ _ _ => n) (itos' : SV → SV → β := fun _ _ => n) (cat' : SV → SV → SV → β := fun _ _ _ => n) (dput' : (Option Nat) → SV → SV → Nat → β := fun _ _ _ _ => n) (dget' : Nat → SV → SV → SV → β := fun _ _ _ _ => n) (dlen' : Nat → SV → β := fun _ _ => n) (lget' : Nat → SV → SV → β := fun _ _ _ => n) (llen' : Nat → SV → β := fun _ _ => n) (dapp' : Nat → (List SV) → (List SV) → β := fun _ _ _ => n) : β := match o with
  | .iop x0 x1 x2 x3 => iop' x0 x1 x2 x3
  | .icmp x0 x1 x2 x3 => icmp' x0 x1 x2 x3
  | .itos x0 x1 => itos' x0 x1
  | .cat x0 x1 x2 => cat' x0 x1 x2
  | .dput x0 x1 x2 x3 => dput' x0 x1 x2 x3
  | .dget x0 x1 x2 x3 => dget' x0 x1 x2 x3
  | .dlen x0 x1 => dlen' x0 x1
  | .lget x0 x1 x2 => lget' x0 x1 x2
  | .llen x0 x1 => llen' x0 x1
  | .dapp x0 x1 x2 => dapp' x0 x1 x2
noncomputable def CA.sel {β : Type} (o : CA) (n : β) (fn' : Nat → β := fun _ => n) (val' : SV → β := fun _ => n) (obj' : β := n) : β := match o with
  | .fn x0 => fn' x0
  | .val x0 => val' x0
  | .obj => obj'
noncomputable def IE.sel {β : Type} (o : IE) (n : β) (bad' : β := n) (none' : β := n) (tru' : β := n) (fls' : β := n) (int' : Int → β := fun _ => n) (str' : Nat → β := fun _ => n) (loc' : Nat → β := fun _ => n) (cel' : Nat → β := fun _ => n) (fre' : Nat → β := fun _ => n) (glob' : Nat → β := fun _ => n) (attr' : IE → Nat → β := fun _ _ => n) (sub' : IE → IE → β := fun _ _ => n) (call' : IE → (List IE) → β := fun _ _ => n) (mcall' : IE → Nat → (List IE) → (List (Nat × IE)) → β := fun _ _ _ _ => n) (lam' : Nat → β := fun _ => n) (comp' : IE → Nat → IE → (Option IE) → (List Nat) → β := fun _ _ _ _ _ => n) (cmp' : Nat → IE → IE → β := fun _ _ _ => n) (bop' : Bool → (List IE) → β := fun _ _ => n) (not' : IE → β := fun _ => n) (bin' : Nat → IE → IE → β := fun _ _ _ => n) (dict' : (List IE) → (List IE) → β := fun _ _ => n) (list' : (List IE) → β := fun _ => n) (tup' : (List IE) → β := fun _ => n) (ite' : IE → IE → IE → β := fun _ _ _ => n) (srt' : IE → β := fun _ => n) : β := match o with
  | .bad => bad'
  | .none => none'
  | .tru => tru'
  | .fls => fls'
  | .int x0 => int' x0
  | .str x0 => str' x0
  | .loc x0 => loc' x0
  | .cel x0 => cel' x0
  | .fre x0 => fre' x0
  | .glob x0 => glob' x0
  | .attr x0 x1 => attr' x0 x1
  | .sub x0 x1 => sub' x0 x1
  | .call x0 x1 => call' x0 x1
  | .mcall x0 x1 x2 x3 => mcall' x0 x1 x2 x3
  | .lam x0 => lam' x0
  | .comp x0 x1 x2 x3 x4 => comp' x0 x1 x2 x3 x4
  | .cmp x0 x1 x2 => cmp' x0 x1 x2
  | .bop x0 x1 => bop' x0 x1
  | .not x0 => not' x0
  | .bin x0 x1 x2 => bin' x0 x1 x2
  | .dict x0 x1 => dict' x0 x1
  | .list x0 => list' x0
  | .tup x0 => tup' x0
  | .ite x0 x1 x2 => ite' x0 x1 x2
  | .srt x0 => srt' x0
structure VC where
  t : Nat
  i : Int
  n : Nat
noncomputable def SV.cd (v : SV) : VC := match v with
  | .none => ⟨0, 0, 0⟩ | .bool b => ⟨1, 0, cond b 1 0⟩ | .int i => ⟨2, i, 0⟩ | .sint j => ⟨3, 0, j⟩ | .str n => ⟨4, 0, n⟩ | .sstr j => ⟨5, 0, j⟩
  | .cstr n t => ⟨6, .ofNat n, t⟩ | .top a => ⟨7, 0, a⟩ | .blt n => ⟨8, 0, n⟩ | .ref i => ⟨9, 0, i⟩ | .opq j => ⟨10, 0, j⟩
noncomputable def SV.uns : List (VC → SV) := [fun _ => .none, fun v => .bool (Nat.beq v.n 1), fun v => .int v.i, fun v => .sint v.n, fun v => .str v.n, fun v => .sstr v.n, fun v => .cstr v.i.toNat v.n, fun v => .top v.n, fun v => .blt v.n, fun v => .ref v.n, fun v => .opq v.n]
noncomputable def SV.un (v : VC) : SV := (SV.uns.getD v.t fun _ => .none) v
theorem SV.un_cd (v : SV) : SV.un v.cd = v := by cases v with | bool b => cases b <;> rfl | _ => rfl
noncomputable def SV.eqb (a b : SV) : Bool := Nat.beq a.cd.t b.cd.t && (decide (a.cd.i = b.cd.i) && Nat.beq a.cd.n b.cd.n)
theorem SV.eqb_of {a b : SV} (h : SV.eqb a b = true) : a = b :=
  have h1 := Bool.and_eq_true_iff.mp h
  have h2 := Bool.and_eq_true_iff.mp h1.2
  (SV.un_cd a).symm.trans ((congrArg SV.un (show VC.mk a.cd.t a.cd.i a.cd.n = VC.mk b.cd.t b.cd.i b.cd.n from congr (congr (congrArg VC.mk (Nat.eq_of_beq_eq_true h1.1)) (of_decide_eq_true h2.1)) (Nat.eq_of_beq_eq_true h2.2))).trans (SV.un_cd b))
noncomputable def eqVs (xs ys : List SV) : Bool := xs.foldr (fun x r ys => match ys with | [] => false | y :: ys => SV.eqb x y && r ys) (fun ys => ys.isEmpty) ys
theorem eqVs_of {xs : List SV} : ∀ {ys : List SV}, eqVs xs ys = true → xs = ys := by
  induction xs with
  | nil => intro ys h; cases ys with | nil => rfl | cons => cases h
  | cons x xs ih => intro ys h; cases ys with
    | nil => cases h
    | cons y ys => exact congr (congrArg List.cons (SV.eqb_of (Bool.and_eq_true_iff.mp h).1)) (ih (Bool.and_eq_true_iff.mp h).2)
end Mine
namespace Mine
noncomputable def nAttr : Nat := 76
noncomputable def names : List String := ["data", "append", "as_weakref_list", "status", "ACTIVE", "_resources", "_synchronizers", "_manager", "_adapters", "_voted", "extension", "_failure_traceback", "_before_commit", "_after_commit", "_before_abort", "_after_abort", "COMMITFAILED", "_prior_operation_failed", "DOOMED", "_savepoint2index", "keys", "_savepoints", "_invalidate_all_savepoints", "_callBeforeCommitHooks", "beforeCompletion", "map", "COMMITTING", "_commitResources", "COMMITTED", "_saveAndGetCommitishError", "_callAfterCommitHooks", "afterCompletion", "_free", "_call_hooks", "abort", "sort", "tpc_begin", "commit", "tpc_vote", "tpc_finish", "_cleanup", "tpc_abort", "free", "_free_manager", "_callBeforeAbortHooks", "_callAfterAbortHooks", "newTransaction", "explicit", "_txn", "_synchs", "add", "remove", "get", "who", "what", "plan", "log", "deed", "key", "kept", "value", "ready", "step", "join", "items", "extend", "unregisterSynch", "registerSynch", "registeredSynchs", "begin", "clear", "__init__", "_data", "sortKey", "__len__", "__contains__", "self", "len", "one", "obj", "any", "KeyError", "wr", "elt", "f", "list", "_TB_BUFFER", "StringIO", "Status", "synchronizers", "WeakSet", "manager", "ValueError", "resource", "datamanager_savepoint", "AbortSavepoint", "transaction_savepoint", "transaction doomed, cannot commit", "DoomedTransaction", "s", "ft", "_makeTracebackBuffer", "exc", "clean", "prefix_args", "hooks", "rm", "L", "rm_key", "hasattr", "delattr", "_NoSynchronizers", "t", "v", "tb", "func", "getattr", "synchs", "txn", "AlreadyInTransaction", "Transaction", "_new_transaction", "NoTransaction", "Foreign transaction", "synch", "bool", "transaction", "kind", "Refusal", "Passing", "client", "world", "clients", "c", "snap", "wrote", "source", "sorted", "plain", "own", "count", "a", "b", "d", "many", "range", "_law_deed", "owner", "TransactionManager", "m", "PlainManager", "cache", "Synchronizer", "in", "under", "due", "phase", "", "writes", "rows", "failed", "joined", "way", "_law_commits", "error", "_law_aborts", "rest", "number", "_law_begins", "w", "str", "int", "_law_ends", "_law_registers", "k", "_law_reads", "text", "Exception", "BaseException", "hook", "Active", "Committing", "Committed", "Doomed", "Commit failed", "_law_world", "_law_one", "_law_is_seen", "numbers", "script"]
noncomputable def funs : List IFun := [
  ⟨129, [76], [], [],
    [.asgn [(.ta (.loc 76) 0)] (.list [])]⟩,
  ⟨136, [76], [], [],
    [.ret (some (.call (.glob 77) [(.attr (.loc 76) 0)]))]⟩,
  ⟨141, [76, 79], [79], [],
    [.ret (some (.call (.glob 80) [(.comp (.cmp 0 (.loc 78) (.cel 79)) 78 (.attr (.loc 76) 0) none [79])]))]⟩,
  ⟨148, [76, 79], [], [],
    [.ife (.cmp 5 (.loc 79) (.loc 76)) [.expr (.mcall (.attr (.loc 76) 0) 1 [(.loc 79)] [])] []]⟩,
  ⟨153, [76, 79], [79], [],
    [.ife (.cmp 5 (.cel 79) (.loc 76)) [.raise (.call (.glob 81) [(.cel 79)])] [], .asgn [(.ta (.loc 76) 0)] (.comp (.loc 78) 78 (.attr (.loc 76) 0) (some (.cmp 1 (.loc 78) (.cel 79))) [79])]⟩,
  ⟨167, [76, 84], [], [],
    [.for_ (.tn 82 false) (.mcall (.loc 76) 2 [] []) [.asgn [(.tn 83 false)] (.loc 82), .ife (.cmp 1 (.loc 83) .none) [.expr (.call (.loc 84) [(.loc 83)])] []]]⟩,
  ⟨174, [76], [], [],
    [.ret (some (.call (.glob 85) [(.attr (.loc 76) 0)]))]⟩,
  ⟨188, [], [], [],
    [.ife (.cmp 1 (.glob 86) .none) [.ret (some (.glob 86))] [], .ret (some (.call (.glob 87) []))]⟩,
  ⟨241, [76, 89, 91], [], [(89, .none), (91, .none)],
    [.asgn [(.ta (.loc 76) 3)] (.attr (.glob 88) 4), .asgn [(.ta (.loc 76) 5)] (.list []), .ife (.cmp 0 (.loc 89) .none) [.asgn [(.tn 89 false)] (.call (.glob 90) [])] [], .asgn [(.ta (.loc 76) 6)] (.loc 89), .asgn [(.ta (.loc 76) 7)] (.loc 91), .asgn [(.ta (.loc 76) 8)] (.dict [] []), .asgn [(.ta (.loc 76) 9)] (.list []), .asgn [(.ta (.loc 76) 10)] (.dict [] []), .asgn [(.ta (.loc 76) 11)] .none, .asgn [(.ta (.loc 76) 12)] (.list []), .asgn [(.ta (.loc 76) 13)] (.list []), .asgn [(.ta (.loc 76) 14)] (.list []), .asgn [(.ta (.loc 76) 15)] (.list [])]⟩,
  ⟨334, [76, 93], [], [],
    [.ife (.cmp 0 (.attr (.loc 76) 3) (.attr (.glob 88) 16)) [.expr (.mcall (.loc 76) 17 [] [])] [], .ife (.bop true [(.cmp 1 (.attr (.loc 76) 3) (.attr (.glob 88) 4)), (.cmp 1 (.attr (.loc 76) 3) (.attr (.glob 88) 18))]) [.bad] [], .expr (.mcall (.attr (.loc 76) 5) 1 [(.loc 93)] []), .ife (.attr (.loc 76) 19) [.asgn [(.tn 94 false)] (.call (.glob 95) [(.loc 93), (.loc 76)]), .for_ (.tn 96 false) (.mcall (.attr (.loc 76) 19) 20 [] []) [.expr (.mcall (.attr (.loc 96) 21) 1 [(.loc 94)] [])]] []]⟩,
  ⟨370, [76], [76], [],
    [.ife (.cmp 0 (.attr (.cel 76) 3) (.attr (.glob 88) 18)) [.raise (.call (.glob 98) [(.str 97)])] [], .ife (.attr (.cel 76) 19) [.expr (.mcall (.cel 76) 22 [] [])] [], .ife (.cmp 0 (.attr (.cel 76) 3) (.attr (.glob 88) 16)) [.expr (.mcall (.cel 76) 17 [] [])] [], .expr (.mcall (.cel 76) 23 [] []), .expr (.mcall (.attr (.cel 76) 6) 25 [(.lam 0)] []), .asgn [(.ta (.cel 76) 3)] (.attr (.glob 88) 26), .tryB [.expr (.mcall (.cel 76) 27 [] []), .asgn [(.ta (.cel 76) 3)] (.attr (.glob 88) 28)] [.expr (.mcall (.cel 76) 29 [] []), .expr (.mcall (.cel 76) 30 [] [(3, .fls)]), .reraise] [.expr (.mcall (.attr (.cel 76) 6) 25 [(.lam 1)] []), .expr (.mcall (.cel 76) 30 [] [(3, .tru)]), .expr (.mcall (.cel 76) 32 [] [])]]⟩,
  ⟨377, [76], [], [],
    [.asgn [(.ta (.loc 76) 3)] (.attr (.glob 88) 16), .asgn [(.tn 100 false), (.ta (.loc 76) 11)] (.call (.glob 101) [])]⟩,
  ⟨400, [76], [], [],
    [.expr (.mcall (.loc 76) 33 [(.attr (.loc 76) 12)] [])]⟩,
  ⟨424, [76, 3], [], [(3, (.bool true))],
    [.expr (.mcall (.loc 76) 33 [(.attr (.loc 76) 13)] [(102, .fls), (103, .tru), (104, (.tup [(.loc 3)]))])]⟩,
  ⟨433, [76, 105, 102, 103, 104], [], [(102, (.bool true)), (103, (.bool false)), (104, .top 425)],
    [.ife (.not (.loc 105)) [.ret none] [], .tryF [.bad] [.delsl (.loc 105), .ife (.loc 103) [.for_ (.tn 106 false) (.attr (.loc 76) 5) [.tryB [.expr (.mcall (.loc 106) 34 [(.loc 76)] [])] [.pass] []]] []]]⟩,
  ⟨456, [76], [], [],
    [.expr (.mcall (.loc 76) 33 [(.attr (.loc 76) 14)] [(102, .fls)])]⟩,
  ⟨479, [76], [], [],
    [.expr (.mcall (.loc 76) 33 [(.attr (.loc 76) 15)] [(103, .tru)])]⟩,
  ⟨486, [76], [76], [],
    [.asgn [(.tn 107 false)] (.call (.glob 85) [(.attr (.cel 76) 5)]), .expr (.mcall (.loc 107) 35 [] [(58, (.glob 108))]), .tryB [.for_ (.tn 106 false) (.loc 107) [.expr (.mcall (.loc 106) 36 [(.cel 76)] [])], .for_ (.tn 106 false) (.loc 107) [.expr (.mcall (.loc 106) 37 [(.cel 76)] [])], .for_ (.tn 106 false) (.loc 107) [.expr (.mcall (.loc 106) 38 [(.cel 76)] []), .asgn [(.ta (.cel 76) 9)] (.bin 0 (.attr (.cel 76) 9) (.list [(.loc 106)]))], .tryB [.for_ (.tn 106 false) (.loc 107) [.expr (.mcall (.loc 106) 39 [(.cel 76)] [])]] [.reraise] []] [.tryF [.expr (.mcall (.cel 76) 40 [(.loc 107)] [])] [.expr (.mcall (.attr (.cel 76) 6) 25 [(.lam 2)] [])], .reraise] []]⟩,
  ⟨491, [76, 107], [106], [],
    [.for_ (.tn 106 true) (.loc 107) [.ife (.not (.comp (.loc 78) 78 (.attr (.loc 76) 9) (some (.cmp 0 (.loc 78) (.cel 106))) [106])) [.tryN [.expr (.mcall (.cel 106) 34 [(.loc 76)] [])] []] []], .for_ (.tn 106 true) (.loc 107) [.tryN [.expr (.mcall (.cel 106) 41 [(.loc 76)] [])] []]]⟩,
  ⟨498, [76], [], [],
    [.tryF [.ife (.attr (.loc 76) 7) [.expr (.mcall (.attr (.loc 76) 7) 42 [(.loc 76)] [])] []] [.asgn [(.ta (.loc 76) 7)] .none]]⟩,
  ⟨505, [76], [], [],
    [.expr (.mcall (.loc 76) 43 [] []), .ife (.call (.glob 109) [(.loc 76), (.str 72)]) [.expr (.call (.glob 110) [(.loc 76), (.str 72)])] [], .delsl (.attr (.loc 76) 5), .delsl (.attr (.loc 76) 12), .delsl (.attr (.loc 76) 13), .delsl (.attr (.loc 76) 14), .delsl (.attr (.loc 76) 15), .asgn [(.ta (.loc 76) 6)] (.glob 111), .asgn [(.ta (.loc 76) 8)] .none, .asgn [(.ta (.loc 76) 9)] .none, .asgn [(.ta (.loc 76) 10)] .none]⟩,
  ⟨524, [76], [76], [],
    [.tryF [.asgn [(.tn 112 false)] .none, .asgn [(.tn 113 false)] .none, .asgn [(.tn 114 false)] .none, .expr (.mcall (.cel 76) 44 [] []), .ife (.attr (.cel 76) 19) [.expr (.mcall (.cel 76) 22 [] [])] [], .tryN [.expr (.mcall (.attr (.cel 76) 6) 25 [(.lam 3)] [])] [], .for_ (.tn 106 false) (.attr (.cel 76) 5) [.tryN [.expr (.mcall (.loc 106) 34 [(.cel 76)] [])] []], .expr (.mcall (.cel 76) 45 [] []), .expr (.mcall (.cel 76) 43 [] []), .expr (.mcall (.attr (.cel 76) 6) 25 [(.lam 4)] []), .ife (.cmp 1 (.loc 114) .none) [.raise (.loc 113)] []] [.expr (.mcall (.cel 76) 32 [] [])]]⟩,
  ⟨567, [106], [], [],
    [.asgn [(.tn 115 false)] (.call (.glob 116) [(.loc 106), (.str 73), .none]), .ife (.cmp 1 (.loc 115) .none) [.ret (some (.call (.loc 115) []))] []]⟩,
  ⟨673, [118, 117], [118], [],
    [.ife (.loc 117) [.expr (.mcall (.loc 117) 25 [(.lam 5)] [])] []]⟩,
  ⟨688, [76, 47], [], [(47, (.bool false))],
    [.asgn [(.ta (.loc 76) 47)] (.loc 47), .asgn [(.ta (.loc 76) 48)] .none, .asgn [(.ta (.loc 76) 49)] (.call (.glob 90) [])]⟩,
  ⟨695, [76], [], [],
    [.ife (.cmp 1 (.attr (.loc 76) 48) .none) [.ife (.attr (.loc 76) 47) [.raise (.call (.glob 119) [])] [], .expr (.mcall (.attr (.loc 76) 48) 34 [] [])] [], .asgn [(.tn 118 false), (.ta (.loc 76) 48)] (.call (.glob 120) [(.attr (.loc 76) 49), (.loc 76)]), .expr (.call (.glob 121) [(.loc 118), (.attr (.loc 76) 49)]), .ret (some (.loc 118))]⟩,
  ⟨709, [76], [], [],
    [.ife (.cmp 0 (.attr (.loc 76) 48) .none) [.ife (.attr (.loc 76) 47) [.raise (.call (.glob 122) [])] [], .asgn [(.ta (.loc 76) 48)] (.call (.glob 120) [(.attr (.loc 76) 49), (.loc 76)])] [], .ret (some (.attr (.loc 76) 48))]⟩,
  ⟨716, [76, 118], [], [],
    [.ife (.cmp 1 (.loc 118) (.attr (.loc 76) 48)) [.raise (.call (.glob 92) [(.str 123)])] [], .asgn [(.ta (.loc 76) 48)] .none]⟩,
  ⟨723, [76, 124], [], [],
    [.expr (.mcall (.attr (.loc 76) 49) 50 [(.loc 124)] []), .ife (.cmp 1 (.attr (.loc 76) 48) .none) [.expr (.mcall (.loc 124) 46 [(.attr (.loc 76) 48)] [])] []]⟩,
  ⟨730, [76, 124], [], [],
    [.expr (.mcall (.attr (.loc 76) 49) 51 [(.loc 124)] [])]⟩,
  ⟨744, [76], [], [],
    [.ret (some (.call (.glob 125) [(.attr (.loc 76) 49)]))]⟩,
  ⟨765, [76], [], [],
    [.ret (some (.mcall (.mcall (.loc 76) 52 [] []) 37 [] []))]⟩,
  ⟨772, [76], [], [],
    [.ret (some (.mcall (.mcall (.loc 76) 52 [] []) 34 [] []))]⟩,
  ⟨846, [76, 53, 54], [], [],
    [.asgn [(.ta (.loc 76) 53)] (.loc 53), .asgn [(.ta (.loc 76) 54)] (.loc 54)]⟩,
  ⟨886, [76, 53, 55, 56, 57], [], [(57, .none)],
    [.asgn [(.ta (.loc 76) 53)] (.loc 53), .asgn [(.ta (.loc 76) 55)] (.loc 55), .asgn [(.ta (.loc 76) 56)] (.loc 56), .asgn [(.ta (.loc 76) 57)] (.loc 57)]⟩,
  ⟨893, [76, 54, 126], [], [],
    [.expr (.mcall (.attr (.loc 76) 56) 1 [(.tup [(.loc 54), (.attr (.loc 76) 53)])] []), .ife (.cmp 1 (.attr (.loc 76) 57) .none) [.expr (.mcall (.loc 76) 57 [(.attr (.loc 76) 53), (.loc 54), (.loc 126)] [])] [], .asgn [(.tn 127 false)] (.mcall (.attr (.loc 76) 55) 52 [(.loc 54), (.int 0)] []), .ife (.cmp 2 (.loc 127) (.int 1)) [.raise (.call (.glob 128) [(.attr (.loc 76) 53), (.loc 54)])] [], .ife (.cmp 2 (.loc 127) (.int 2)) [.raise (.call (.glob 129) [(.attr (.loc 76) 53), (.loc 54)])] []]⟩,
  ⟨915, [76, 53, 58, 55, 56, 57], [], [(57, .none)],
    [.asgn [(.ta (.loc 76) 53)] (.loc 53), .asgn [(.ta (.loc 76) 58)] (.loc 58), .asgn [(.ta (.loc 76) 55)] (.loc 55), .asgn [(.ta (.loc 76) 56)] (.loc 56), .asgn [(.ta (.loc 76) 57)] (.loc 57), .asgn [(.ta (.loc 76) 59)] (.int 0), .asgn [(.ta (.loc 76) 60)] (.int 0), .asgn [(.ta (.loc 76) 61)] .none]⟩,
  ⟨922, [76], [], [],
    [.ret (some (.attr (.loc 76) 58))]⟩,
  ⟨929, [76, 126], [], [],
    [.asgn [(.ta (.loc 76) 60)] (.attr (.loc 76) 59), .asgn [(.ta (.loc 76) 61)] .none, .expr (.mcall (.loc 76) 62 [(.str 34), (.loc 126)] [])]⟩,
  ⟨936, [76, 126], [], [],
    [.expr (.mcall (.loc 76) 62 [(.str 36), (.loc 126)] [])]⟩,
  ⟨943, [76, 126], [], [],
    [.expr (.mcall (.loc 76) 62 [(.str 37), (.loc 126)] []), .asgn [(.ta (.loc 76) 61)] (.list [(.attr (.loc 76) 60)])]⟩,
  ⟨950, [76, 126], [], [],
    [.expr (.mcall (.loc 76) 62 [(.str 38), (.loc 126)] [])]⟩,
  ⟨957, [76, 126], [], [],
    [.expr (.mcall (.loc 76) 62 [(.str 39), (.loc 126)] []), .ife (.cmp 1 (.attr (.loc 76) 61) .none) [.asgn [(.ta (.loc 76) 59)] (.sub (.attr (.loc 76) 61) (.int 0)), .asgn [(.ta (.loc 76) 61)] .none] []]⟩,
  ⟨964, [76, 126], [], [],
    [.asgn [(.ta (.loc 76) 60)] (.attr (.loc 76) 59), .asgn [(.ta (.loc 76) 61)] .none, .expr (.mcall (.loc 76) 62 [(.str 41), (.loc 126)] [])]⟩,
  ⟨983, [76, 126], [], [],
    [.expr (.mcall (.loc 76) 62 [(.str 46), (.loc 126)] [])]⟩,
  ⟨990, [76, 126], [], [],
    [.expr (.mcall (.loc 76) 62 [(.str 24), (.loc 126)] [])]⟩,
  ⟨997, [76, 126], [], [],
    [.expr (.mcall (.loc 76) 62 [(.str 31), (.loc 126)] [])]⟩,
  ⟨1009, [131, 133], [131, 133], [],
    [.defn 57 6, .ret (some (.loc 57))]⟩,
  ⟨1016, [144], [], [],
    [.asgn [(.tn 131 false)] (.dict [(.str 136), (.str 138), (.str 132), (.str 139), (.str 140)] [(.list [(.str 141), (.str 142), (.str 133), (.str 143)]), (.list [(.str 141), (.str 142), (.str 133), (.str 143)]), (.list []), (.list []), (.int 0)]), .for_ (.tn 133 false) (.call (.glob 145) [(.loc 144)]) [.swap [56, 57] [(.list []), (.call (.glob 146) [(.loc 131), (.loc 133)])], .asgn [(.tn 130 false)] (.dict [(.str 147), (.str 56), (.str 134), (.str 135)] [(.call (.glob 148) []), (.loc 56), (.list []), (.dict [] [])]), .asgn [(.ts (.loc 130) (.str 91))] (.call (.glob 150) [(.str 149), (.int 0), (.dict [] []), (.loc 56), (.loc 57)]), .asgn [(.ts (.loc 130) (.str 151))] (.call (.glob 152) [(.str 133), (.dict [] []), (.loc 56), (.loc 57)]), .expr (.mcall (.sub (.loc 131) (.str 132)) 1 [(.loc 130)] []), .expr (.mcall (.sub (.loc 131) (.str 139)) 1 [(.dict [(.str 153), (.str 154), (.str 134), (.str 135), (.str 155), (.str 156)] [.fls, .fls, (.list []), (.dict [] []), (.list []), (.str 157)])] [])], .ret (some (.loc 131))]⟩,
  ⟨1023, [131, 133], [], [],
    [.asgn [(.tn 139 false)] (.sub (.sub (.loc 131) (.str 139)) (.loc 133)), .asgn [(.ts (.loc 139) (.str 154))] .tru, .ife (.sub (.loc 139) (.str 153)) [.expr (.mcall (.sub (.loc 139) (.str 155)) 1 [(.tup [(.str 46), (.str 133)])] []), .asgn [(.tt [(.ts (.loc 139) (.str 134)), (.ts (.loc 139) (.str 135))])] (.tup [(.call (.glob 85) [(.sub (.loc 131) (.str 138))]), (.dict [] [])])] []]⟩,
  ⟨1030, [131, 133], [], [],
    [.swap [139, 156] [(.sub (.sub (.loc 131) (.str 139)) (.loc 133)), (.sub (.sub (.sub (.loc 131) (.str 139)) (.loc 133)) (.str 156))], .swap [158, 159, 160] [(.bop true [(.sub (.loc 139) (.str 153)), (.cmp 7 (.call (.glob 77) [(.sub (.loc 139) (.str 135))]) (.int 0))]), (.list []), .fls], .ife (.sub (.loc 139) (.str 153)) [.expr (.mcall (.loc 159) 1 [(.tup [(.str 24), (.str 133)])] [])] [], .ife (.loc 158) [.for_ (.tn 62 false) (.list [(.str 36), (.str 37), (.str 38), (.str 39)]) [.ife (.not (.loc 160)) [.expr (.mcall (.loc 159) 1 [(.tup [(.loc 62), (.str 149)])] []), .asgn [(.tn 160 false)] (.cmp 2 (.loc 62) (.loc 156))] []], .ife (.loc 160) [.asgn [(.tn 159 false)] (.bin 0 (.loc 159) (.list [(.tup [(.str 34), (.str 149)]), (.tup [(.str 41), (.str 149)])]))] [.copy 131 138 139 135]] [], .ife (.sub (.loc 139) (.str 153)) [.expr (.mcall (.loc 159) 1 [(.tup [(.str 31), (.str 133)])] []), .asgn [(.tt [(.ts (.loc 139) (.str 134)), (.ts (.loc 139) (.str 135))])] (.tup [(.list []), (.dict [] [])])] [], .asgn [(.ts (.loc 139) (.str 154))] (.loc 160), .expr (.mcall (.sub (.loc 139) (.str 155)) 65 [(.loc 159)] []), .ret (some (.tup [(.loc 160), (.loc 158)]))]⟩,
  ⟨1037, [131, 133, 161], [], [],
    [.asgn [(.tn 139 false)] (.sub (.sub (.loc 131) (.str 139)) (.loc 133)), .asgn [(.tn 158 false)] (.bop true [(.sub (.loc 139) (.str 153)), (.cmp 7 (.call (.glob 77) [(.sub (.loc 139) (.str 135))]) (.int 0))]), .ife (.sub (.loc 139) (.str 153)) [.expr (.mcall (.sub (.loc 139) (.str 155)) 1 [(.tup [(.str 24), (.str 133)])] [])] [], .ife (.loc 161) [.expr (.mcall (.sub (.loc 139) (.str 155)) 1 [(.tup [(.str 34), (.str 149)])] [])] [], .ife (.loc 158) [.expr (.mcall (.sub (.loc 139) (.str 155)) 1 [(.tup [(.str 34), (.str 149)])] [])] [], .ife (.sub (.loc 139) (.str 153)) [.expr (.mcall (.sub (.loc 139) (.str 155)) 1 [(.tup [(.str 31), (.str 133)])] []), .asgn [(.tt [(.ts (.loc 139) (.str 134)), (.ts (.loc 139) (.str 135))])] (.tup [(.list []), (.dict [] [])])] [], .asgn [(.ts (.loc 139) (.str 154))] .fls]⟩,
  ⟨1044, [131, 133, 162], [], [],
    [.swap [130, 139] [(.sub (.sub (.loc 131) (.str 132)) (.loc 133)), (.sub (.sub (.loc 131) (.str 139)) (.loc 133))], .asgn [(.ts (.loc 139) (.str 156))] (.sub (.list [(.str 157), (.str 36), (.str 37), (.str 38)]) (.bin 4 (.loc 162) (.int 4))), .asgn [(.ta (.sub (.loc 130) (.str 91)) 55)] (.ite (.cmp 2 (.sub (.loc 139) (.str 156)) (.str 157)) (.dict [] []) (.dict [(.sub (.loc 139) (.str 156))] [(.int 1)])), .ife (.bop true [(.not (.sub (.loc 139) (.str 154))), (.not (.sub (.loc 139) (.str 153)))]) [.ret (some .tru)] [], .asgn [(.tt [(.tn 160 false), (.tn 161 false)])] (.call (.glob 163) [(.loc 131), (.loc 133)]), .tryA 128 164 [.expr (.mcall (.sub (.loc 130) (.str 147)) 37 [] [])] [.expr (.call (.glob 165) [(.loc 131), (.loc 133), (.loc 161)]), .expr (.mcall (.sub (.loc 130) (.str 147)) 34 [] []), .ret (some (.bop true [(.loc 160), (.cmp 2 (.tup [(.attr (.loc 164) 53), (.attr (.loc 164) 54)]) (.tup [(.str 149), (.sub (.loc 139) (.str 156))]))]))] [], .ret (some (.not (.loc 160)))]⟩,
  ⟨1051, [131, 133], [], [],
    [.swap [130, 139] [(.sub (.sub (.loc 131) (.str 132)) (.loc 133)), (.sub (.sub (.loc 131) (.str 139)) (.loc 133))], .ife (.sub (.loc 139) (.str 153)) [.asgn [(.tt [(.ts (.loc 139) (.str 153)), (.ts (.loc 139) (.str 135)), (.ts (.loc 130) (.str 135))])] (.tup [.fls, (.dict [] []), (.dict [] [])]), .expr (.mcall (.sub (.loc 130) (.str 147)) 66 [(.sub (.loc 130) (.str 151))] [])] [.asgn [(.ts (.loc 139) (.str 153))] .tru, .ife (.sub (.loc 139) (.str 154)) [.expr (.mcall (.sub (.loc 139) (.str 155)) 1 [(.tup [(.str 46), (.str 133)])] []), .asgn [(.tt [(.ts (.loc 139) (.str 134)), (.ts (.loc 139) (.str 135))])] (.tup [(.call (.glob 85) [(.sub (.loc 131) (.str 138))]), (.dict [] [])])] [], .expr (.mcall (.sub (.loc 130) (.str 147)) 67 [(.sub (.loc 130) (.str 151))] [])], .ret (some (.cmp 0 (.mcall (.sub (.loc 130) (.str 147)) 68 [] []) (.sub (.loc 139) (.str 153))))]⟩,
  ⟨1058, [131, 167], [], [],
    [.swap [133, 162, 166] [(.bin 4 (.loc 167) (.call (.glob 77) [(.sub (.loc 131) (.str 132))])), (.bin 4 (.bin 3 (.loc 167) (.int 3)) (.int 8)), (.bin 3 (.loc 167) (.int 24))], .swap [130, 139] [(.sub (.sub (.loc 131) (.str 132)) (.loc 133)), (.sub (.sub (.loc 131) (.str 139)) (.loc 133))], .ife (.bop false [(.cmp 2 (.loc 162) (.int 0)), (.bop true [(.cmp 2 (.loc 162) (.int 1)), (.not (.sub (.loc 139) (.str 154)))])]) [.ife (.sub (.loc 139) (.str 154)) [.expr (.call (.glob 165) [(.loc 131), (.loc 133), .fls])] [], .expr (.call (.glob 168) [(.loc 131), (.loc 133)]), .expr (.mcall (.sub (.loc 130) (.str 147)) 69 [] [])] [.ife (.bop true [(.cmp 6 (.loc 162) (.int 4)), (.sub (.loc 139) (.str 153)), (.sub (.loc 139) (.str 154))]) [.asgn [(.ts (.loc 131) (.str 140))] (.bin 0 (.sub (.loc 131) (.str 140)) (.int 1)), .asgn [(.ts (.sub (.loc 130) (.str 135)) (.bin 4 (.loc 166) (.int 4)))] (.bin 0 (.str 169) (.call (.glob 170) [(.sub (.loc 131) (.str 140))])), .asgn [(.ts (.sub (.loc 139) (.str 135)) (.bin 4 (.loc 166) (.int 4)))] (.bin 0 (.str 169) (.call (.glob 170) [(.sub (.loc 131) (.str 140))]))] [.ife (.bop false [(.cmp 2 (.loc 162) (.int 4)), (.bop true [(.cmp 2 (.loc 162) (.int 7)), (.cmp 2 (.bin 4 (.loc 166) (.int 2)) (.int 0))])]) [.ret (some (.call (.glob 172) [(.loc 131), (.loc 133), (.bin 2 (.loc 166) (.call (.glob 171) [(.cmp 2 (.loc 162) (.int 7))]))]))] [.ife (.bop true [(.cmp 2 (.loc 162) (.int 5)), (.sub (.loc 139) (.str 154))]) [.expr (.call (.glob 165) [(.loc 131), (.loc 133), .fls]), .expr (.mcall (.sub (.loc 130) (.str 147)) 34 [] [])] [.ife (.cmp 2 (.loc 162) (.int 6)) [.ret (some (.call (.glob 173) [(.loc 131), (.loc 133)]))] []]]]], .ret (some .tru)]⟩,
  ⟨1065, [130, 174], [], [],
    [.ret (some (.mcall (.sub (.loc 130) (.str 135)) 52 [(.loc 174), (.sub (.sub (.loc 130) (.str 134)) (.loc 174))] []))]⟩,
  ⟨1070, [131], [130, 139], [],
    [.for_ (.tn 133 false) (.call (.glob 145) [(.call (.glob 77) [(.sub (.loc 131) (.str 132))])]) [.asgn [(.tt [(.tn 130 true), (.tn 139 true)])] (.tup [(.sub (.sub (.loc 131) (.str 132)) (.loc 133)), (.sub (.sub (.loc 131) (.str 139)) (.loc 133))]), .ife (.bop true [(.sub (.cel 139) (.str 153)), (.sub (.cel 139) (.str 154))]) [.ife (.cmp 3 (.comp (.call (.glob 175) [(.cel 130), (.loc 174)]) 174 (.call (.glob 145) [(.int 4)]) none [130]) (.comp (.mcall (.sub (.cel 139) (.str 135)) 52 [(.loc 174), (.sub (.sub (.cel 139) (.str 134)) (.loc 174))] []) 174 (.call (.glob 145) [(.int 4)]) none [139])) [.ret (some .fls)] []] [], .ife (.cmp 3 (.sub (.cel 130) (.str 56)) (.sub (.cel 139) (.str 155))) [.ret (some .fls)] [], .expr (.mcall (.sub (.cel 130) (.str 56)) 70 [] []), .expr (.mcall (.sub (.cel 139) (.str 155)) 70 [] [])], .ret (some (.cmp 2 (.sub (.loc 131) (.str 136)) (.sub (.loc 131) (.str 138))))]⟩]
noncomputable def lawIR : List IS := [.asgn [(.tn 131 false)] (.call (.glob 185) [(.bin 0 (.int 2) (.bin 4 (.sub (.loc 188) (.int 0)) (.int 2)))]), .for_ (.tn 133 false) (.call (.glob 145) [(.call (.glob 77) [(.sub (.loc 131) (.str 132))])]) [.ife (.not (.call (.glob 173) [(.loc 131), (.loc 133)])) [.ret (some .fls)] []]]
noncomputable def codes : List ICode := [
  ⟨[99], [76], (some (.mcall (.loc 99) 24 [(.fre 76)] [])),
    []⟩,
  ⟨[99], [76], (some (.mcall (.loc 99) 31 [(.fre 76)] [])),
    []⟩,
  ⟨[99], [76], (some (.mcall (.loc 99) 31 [(.fre 76)] [])),
    []⟩,
  ⟨[99], [76], (some (.mcall (.loc 99) 24 [(.fre 76)] [])),
    []⟩,
  ⟨[99], [76], (some (.mcall (.loc 99) 31 [(.fre 76)] [])),
    []⟩,
  ⟨[99], [118], (some (.mcall (.loc 99) 46 [(.fre 118)] [])),
    []⟩,
  ⟨[53, 54, 126], [131, 133], none,
    [.asgn [(.tn 130 false)] (.sub (.sub (.fre 131) (.str 132)) (.fre 133)), .ife (.cmp 2 (.loc 54) (.str 46)) [.asgn [(.tt [(.ts (.loc 130) (.str 134)), (.ts (.loc 130) (.str 135))])] (.tup [(.call (.glob 85) [(.sub (.fre 131) (.str 136))]), (.dict [] [])])] [.ife (.bop true [(.cmp 2 (.loc 54) (.str 24)), (.cmp 7 (.call (.glob 77) [(.sub (.loc 130) (.str 135))]) (.int 0))]) [.expr (.mcall (.loc 126) 63 [(.sub (.loc 130) (.str 91))] []), .asgn [(.ta (.sub (.loc 130) (.str 91)) 60)] (.srt (.sub (.loc 130) (.str 135)))] [.ife (.cmp 2 (.loc 54) (.str 31)) [.asgn [(.tt [(.ts (.loc 130) (.str 134)), (.ts (.loc 130) (.str 135))])] (.tup [(.list []), (.dict [] [])])] [.ife (.cmp 2 (.loc 54) (.str 39)) [.feed (.attr (.sub (.loc 130) (.str 91)) 60) 131 136] []]]]]⟩]
noncomputable def classes : List (Nat × List (Nat × CA)) := [
  (177, [(71, .fn 129), (74, .fn 136), (75, .fn 141), (50, .fn 148), (51, .fn 153), (25, .fn 167), (2, .fn 174), (70, .fn 160)]),
  (556, [(71, .fn 241), (63, .fn 334), (37, .fn 370), (29, .fn 377), (23, .fn 400), (30, .fn 424), (33, .fn 433), (44, .fn 456), (45, .fn 479), (27, .fn 486), (40, .fn 491), (43, .fn 498), (32, .fn 505), (34, .fn 524), (17, .fn 327), (22, .fn 363), (0, .fn 510), (19, .val .none)]),
  (828, [(71, .fn 688), (69, .fn 695), (52, .fn 709), (42, .fn 716), (67, .fn 723), (66, .fn 730), (68, .fn 744), (37, .fn 765), (34, .fn 772)]),
  (967, [(71, .fn 915), (73, .fn 922), (34, .fn 929), (36, .fn 936), (37, .fn 943), (38, .fn 950), (39, .fn 957), (41, .fn 964), (62, .fn 893)]),
  (1000, [(46, .fn 983), (24, .fn 990), (31, .fn 997), (71, .fn 886), (62, .fn 893)]),
  (38, [(71, .obj)]),
  (198, [(4, .val (.cstr 180 427)), (26, .val (.cstr 181 429)), (28, .val (.cstr 182 431)), (18, .val (.cstr 183 433)), (16, .val (.cstr 184 435)), (71, .obj)])]
noncomputable def globs : List (Nat × SV) := [(87, .top 38), (90, .top 177), (88, .top 198), (111, .top 222), (120, .top 556), (148, .top 828), (128, .top 849), (150, .top 967), (152, .top 1000), (101, .top 188), (108, .top 567), (121, .top 673), (146, .top 1009), (185, .top 1016), (168, .top 1023), (163, .top 1030), (165, .top 1037), (172, .top 1044), (173, .top 1051), (186, .top 1058), (175, .top 1065), (187, .top 1070), (86, .none), (80, .blt 80), (85, .blt 85), (77, .blt 77), (125, .blt 125), (137, .blt 137), (109, .blt 109), (116, .blt 116), (171, .blt 171), (170, .blt 170), (145, .blt 145), (177, .blt 177), (178, .blt 178)]
abbrev n_data : Nat := 0
abbrev n_append : Nat := 1
abbrev n_as_weakref_list : Nat := 2
abbrev n_status : Nat := 3
abbrev n_ACTIVE : Nat := 4
abbrev n__resources : Nat := 5
abbrev n__synchronizers : Nat := 6
abbrev n__manager : Nat := 7
abbrev n__adapters : Nat := 8
abbrev n__voted : Nat := 9
abbrev n_extension : Nat := 10
abbrev n__failure_traceback : Nat := 11
abbrev n__before_commit : Nat := 12
abbrev n__after_commit : Nat := 13
abbrev n__before_abort : Nat := 14
abbrev n__after_abort : Nat := 15
abbrev n_COMMITFAILED : Nat := 16
abbrev n__prior_operation_failed : Nat := 17
abbrev n_DOOMED : Nat := 18
abbrev n__savepoint2index : Nat := 19
abbrev n_keys : Nat := 20
abbrev n__savepoints : Nat := 21
abbrev n__invalidate_all_savepoints : Nat := 22
abbrev n__callBeforeCommitHooks : Nat := 23
abbrev n_beforeCompletion : Nat := 24
abbrev n_map : Nat := 25
abbrev n_COMMITTING : Nat := 26
abbrev n__commitResources : Nat := 27
abbrev n_COMMITTED : Nat := 28
abbrev n__saveAndGetCommitishError : Nat := 29
abbrev n__callAfterCommitHooks : Nat := 30
abbrev n_afterCompletion : Nat := 31
abbrev n__free : Nat := 32
abbrev n__call_hooks : Nat := 33
abbrev n_abort : Nat := 34
abbrev n_sort : Nat := 35
abbrev n_tpc_begin : Nat := 36
abbrev n_commit : Nat := 37
abbrev n_tpc_vote : Nat := 38
abbrev n_tpc_finish : Nat := 39
abbrev n__cleanup : Nat := 40
abbrev n_tpc_abort : Nat := 41
abbrev n_free : Nat := 42
abbrev n__free_manager : Nat := 43
abbrev n__callBeforeAbortHooks : Nat := 44
abbrev n__callAfterAbortHooks : Nat := 45
abbrev n_newTransaction : Nat := 46
abbrev n_explicit : Nat := 47
abbrev n__txn : Nat := 48
abbrev n__synchs : Nat := 49
abbrev n_add : Nat := 50
abbrev n_remove : Nat := 51
abbrev n_get : Nat := 52
abbrev n_who : Nat := 53
abbrev n_what : Nat := 54
abbrev n_plan : Nat := 55
abbrev n_log : Nat := 56
abbrev n_deed : Nat := 57
abbrev n_key : Nat := 58
abbrev n_kept : Nat := 59
abbrev n_value : Nat := 60
abbrev n_ready : Nat := 61
abbrev n_step : Nat := 62
abbrev n_join : Nat := 63
abbrev n_items : Nat := 64
abbrev n_extend : Nat := 65
abbrev n_unregisterSynch : Nat := 66
abbrev n_registerSynch : Nat := 67
abbrev n_registeredSynchs : Nat := 68
abbrev n_begin : Nat := 69
abbrev n_clear : Nat := 70
abbrev n___init__ : Nat := 71
abbrev n__data : Nat := 72
abbrev n_sortKey : Nat := 73
abbrev n___len__ : Nat := 74
abbrev n___contains__ : Nat := 75
abbrev n_self : Nat := 76
abbrev n_len : Nat := 77
abbrev n_one : Nat := 78
abbrev n_obj : Nat := 79
abbrev n_any : Nat := 80
abbrev n_KeyError : Nat := 81
abbrev n_wr : Nat := 82
abbrev n_elt : Nat := 83
abbrev n_f : Nat := 84
abbrev n_list : Nat := 85
abbrev n__TB_BUFFER : Nat := 86
abbrev n_StringIO : Nat := 87
abbrev n_Status : Nat := 88
abbrev n_synchronizers : Nat := 89
abbrev n_WeakSet : Nat := 90
abbrev n_manager : Nat := 91
abbrev n_ValueError : Nat := 92
abbrev n_resource : Nat := 93
abbrev n_datamanager_savepoint : Nat := 94
abbrev n_AbortSavepoint : Nat := 95
abbrev n_transaction_savepoint : Nat := 96
abbrev n_DoomedTransaction : Nat := 98
abbrev n_s : Nat := 99
abbrev n_ft : Nat := 100
abbrev n__makeTracebackBuffer : Nat := 101
abbrev n_exc : Nat := 102
abbrev n_clean : Nat := 103
abbrev n_prefix_args : Nat := 104
abbrev n_hooks : Nat := 105
abbrev n_rm : Nat := 106
abbrev n_L : Nat := 107
abbrev n_rm_key : Nat := 108
abbrev n_hasattr : Nat := 109
abbrev n_delattr : Nat := 110
abbrev n__NoSynchronizers : Nat := 111
abbrev n_t : Nat := 112
abbrev n_v : Nat := 113
abbrev n_tb : Nat := 114
abbrev n_func : Nat := 115
abbrev n_getattr : Nat := 116
abbrev n_synchs : Nat := 117
abbrev n_txn : Nat := 118
abbrev n_AlreadyInTransaction : Nat := 119
abbrev n_Transaction : Nat := 120
abbrev n__new_transaction : Nat := 121
abbrev n_NoTransaction : Nat := 122
abbrev n_synch : Nat := 124
abbrev n_bool : Nat := 125
abbrev n_transaction : Nat := 126
abbrev n_kind : Nat := 127
abbrev n_Refusal : Nat := 128
abbrev n_Passing : Nat := 129
abbrev n_client : Nat := 130
abbrev n_world : Nat := 131
abbrev n_clients : Nat := 132
abbrev n_c : Nat := 133
abbrev n_snap : Nat := 134
abbrev n_wrote : Nat := 135
abbrev n_source : Nat := 136
abbrev n_sorted : Nat := 137
abbrev n_plain : Nat := 138
abbrev n_own : Nat := 139
abbrev n_count : Nat := 140
abbrev n_a : Nat := 141
abbrev n_b : Nat := 142
abbrev n_d : Nat := 143
abbrev n_many : Nat := 144
abbrev n_range : Nat := 145
abbrev n__law_deed : Nat := 146
abbrev n_owner : Nat := 147
abbrev n_TransactionManager : Nat := 148
abbrev n_m : Nat := 149
abbrev n_PlainManager : Nat := 150
abbrev n_cache : Nat := 151
abbrev n_Synchronizer : Nat := 152
abbrev n_in : Nat := 153
abbrev n_under : Nat := 154
abbrev n_due : Nat := 155
abbrev n_phase : Nat := 156
abbrev n_writes : Nat := 158
abbrev n_rows : Nat := 159
abbrev n_failed : Nat := 160
abbrev n_joined : Nat := 161
abbrev n_way : Nat := 162
abbrev n__law_commits : Nat := 163
abbrev n_error : Nat := 164
abbrev n__law_aborts : Nat := 165
abbrev n_rest : Nat := 166
abbrev n_number : Nat := 167
abbrev n__law_begins : Nat := 168
abbrev n_w : Nat := 169
abbrev n_str : Nat := 170
abbrev n_int : Nat := 171
abbrev n__law_ends : Nat := 172
abbrev n__law_registers : Nat := 173
abbrev n_k : Nat := 174
abbrev n__law_reads : Nat := 175
abbrev n_text : Nat := 176
abbrev n_Exception : Nat := 177
abbrev n_BaseException : Nat := 178
abbrev n_hook : Nat := 179
abbrev n_Active : Nat := 180
abbrev n_Committing : Nat := 181
abbrev n_Committed : Nat := 182
abbrev n_Doomed : Nat := 183
abbrev n__law_world : Nat := 185
abbrev n__law_one : Nat := 186
abbrev n__law_is_seen : Nat := 187
abbrev n_numbers : Nat := 188
abbrev n_script : Nat := 189
noncomputable def prog : PT := ⟨funs, codes, classes, globs⟩
end Mine
namespace Mine
noncomputable def lk {α : Type} (l : List (Nat × α)) (n : Nat) : Option α := l.foldr (fun e r => cond (Nat.beq e.1 n) (some e.2) r) none
noncomputable def put {α : Type} : List (Nat × α) → Nat → α → List (Nat × α)
  | [], n, v => [(n, v)]
  | e :: r, n, v => cond (Nat.beq e.1 n) ((e.1, v) :: r) (e :: put r n v)
noncomputable def del {α : Type} : List (Nat × α) → Nat → List (Nat × α)
  | [], _ => []
  | e :: r, n => cond (Nat.beq e.1 n) r (e :: del r n)
noncomputable def delA {α : Type} (l : List (Nat × α)) (n : Nat) : List (Nat × α) := l.filter fun e => !Nat.beq e.1 n
structure SS where
  objs : List SObj
  rows : List Row
noncomputable def SS.set (σ : SS) (i : Nat) (o : SObj) : SS := ⟨σ.objs.set i o, σ.rows⟩
noncomputable def SS.new (σ : SS) (o : SObj) : SS := ⟨σ.objs ++ [o], σ.rows⟩
structure SFr where
  loc : List (Nat × SV)
  cel : List (Nat × Nat)
inductive Rs where | ok (v : SV) | exc (e : Nat)
inductive Fl where | next | ret (v : SV) | exc (e : Nat)
noncomputable def Fl.sel {β : Type} (o : Fl) (n : β) (next' : β := n) (ret' : SV → β := fun _ => n) (exc' : Nat → β := fun _ => n) : β := match o with | .next => next' | .ret v => ret' v | .exc e => exc' e
section
variable {β : Type}
@[irreducible] noncomputable def wh (b : Bool) (x : Option β) : Option β := cond b x none
@[irreducible] noncomputable def optE {α : Type} (x : Option α) (n : Option β) (s : α → Option β) : Option β := match x with | none => n | some a => s a
@[irreducible] noncomputable def SS.on (σ : SS) (i : Nat) (K : SObj → Option β) : Option β := (σ.objs[i]?).bind K
@[irreducible] noncomputable def SS.onL (σ : SS) (i : Nat) (k : List SV → Option β) : Option β := σ.on i fun o => o.sel none (list' := fun xs => k xs)
@[irreducible] noncomputable def SS.onD (σ : SS) (i : Nat) (k : List (Nat × SV) → Option β) : Option β := σ.on i fun o => o.sel none (dict' := fun es => k es)
@[irreducible] noncomputable def SS.onI (σ : SS) (i : Nat) (k : Nat → Nat → Option β) : Option β := σ.on i fun o => o.sel none (inst' := fun C d => k C d)
@[irreducible] noncomputable def SS.onX (σ : SS) (i : Nat) (k : Nat → Nat → Option β) : Option β := σ.on i fun o => o.sel none (exc' := fun C d => k C d)
@[irreducible] noncomputable def SS.onC (σ : SS) (i : Nat) (k : SV → Option β) : Option β := σ.on i fun o => o.sel none (cell' := fun v => v.bind k)
@[irreducible] noncomputable def SS.onA (σ : SS) (i : Nat) (k : Nat → Option β) : Option β := σ.on i fun o => o.sel none (adict' := fun j => k j)
@[irreducible] noncomputable def SS.onE (σ : SS) (i : Nat) (k : List (Nat × SV) → Option β) : Option β := σ.on i fun o => o.sel none (edict' := fun es => k es)
@[irreducible] noncomputable def onR (v : SV) (k : Nat → Option β) : Option β := v.sel none (ref' := fun i => k i)
@[irreducible] noncomputable def onS (v : SV) (k : Nat → Option β) : Option β := v.sel none (str' := fun n => k n)
@[irreducible] noncomputable def on1 (l : List SV) (k : SV → Option β) : Option β := match l with | [] => none | a :: r => match r with | [] => k a | _ :: _ => none
@[irreducible] noncomputable def on2 (l : List SV) (k : SV → SV → Option β) : Option β := match l with | [] => none | a :: r => on1 r (k a)
@[irreducible] noncomputable def on3 (l : List SV) (k : SV → SV → SV → Option β) : Option β := match l with | [] => none | a :: r => on2 r (k a)
@[irreducible] noncomputable def rowF (rs : List Row) (K : Row → Option β) : Option β := rs.findSome? K
end
noncomputable def rowIop (o : Nat) (a b : SV) (rs : List Row) : Option SV := rowF rs fun r => r.sel none (iop' := fun o' a' b' r => wh (Nat.beq o' o && (SV.eqb a' a && SV.eqb b' b)) (some r))
noncomputable def rowIcmp (o : Nat) (a b : SV) (rs : List Row) : Option Bool := rowF rs fun r => r.sel none (icmp' := fun o' a' b' r => wh (Nat.beq o' o && (SV.eqb a' a && SV.eqb b' b)) (some r))
noncomputable def rowItos (a : SV) (rs : List Row) : Option SV := rowF rs fun r => r.sel none (itos' := fun a' r => wh (SV.eqb a' a) (some r))
noncomputable def rowCat (a b : SV) (rs : List Row) : Option SV := rowF rs fun r => r.sel none (cat' := fun a' b' r => wh (SV.eqb a' a && SV.eqb b' b) (some r))
noncomputable def rowDput (d : Option Nat) (k v : SV) (rs : List Row) : Option Nat := rowF rs fun r => r.sel none (dput' := fun d' k' v' r => wh (decide (d' = d) && (SV.eqb k' k && SV.eqb v' v)) (some r))
noncomputable def rowDget (d : Nat) (k v : SV) (rs : List Row) : Option SV := rowF rs fun r => r.sel none (dget' := fun d' k' v' r => wh (Nat.beq d' d && (SV.eqb k' k && SV.eqb v' v)) (some r))
noncomputable def rowDlen (d : Nat) (rs : List Row) : Option SV := rowF rs fun r => r.sel none (dlen' := fun d' r => wh (Nat.beq d' d) (some r))
noncomputable def rowLget (d : Nat) (k : SV) (rs : List Row) : Option SV := rowF rs fun r => r.sel none (lget' := fun d' k' r => wh (Nat.beq d' d && SV.eqb k' k) (some r))
noncomputable def rowLlen (d : Nat) (rs : List Row) : Option SV := rowF rs fun r => r.sel none (llen' := fun d' r => wh (Nat.beq d' d) (some r))
noncomputable def rowDapp (d : Nat) (xs : List SV) (rs : List Row) : Option (List SV) := rowF rs fun r => r.sel none (dapp' := fun d' x' r => wh (Nat.beq d' d && eqVs x' xs) (some r))
noncomputable def small (xs : List SV) : Bool := Nat.ble xs.length 1000
noncomputable def smallD (xs : List (Nat × SV)) : Bool := Nat.ble xs.length 900
noncomputable def isV (σ : SS) (a b : SV) : Option Bool := b.sel none (none' := (a.sel none (none' := some true) (bool' := fun _ => some false) (ref' := fun _ => some false) (top' := fun _ => some false) (cstr' := fun _ _ => some false))) (bool' := fun y => (a.sel none (bool' := fun x => some (x == y)))) (ref' := fun j => onR a fun i => cond (Nat.beq i j) (some true) (σ.on i fun o => o.sel none (list' := fun _ => some false) (dict' := fun _ => some false) (inst' := fun _ _ => some false) (exc' := fun _ _ => some false))) (cstr' := fun m u => (a.sel none (cstr' := fun n t => wh (!Nat.beq t 0 && (!Nat.beq u 0 && (Nat.beq n m == Nat.beq t u))) (some (Nat.beq n m)))))
noncomputable def icmp (o : Nat) (a b : Int) : Option Bool := match o with
  | 2 => some (decide (a = b)) | 3 => some (!decide (a = b)) | 6 => some (decide (a < b)) | 7 => some (decide (b < a)) | 8 => some (decide (b ≤ a)) | 9 => some (decide (a ≤ b))
  | _ => none
inductive ST where
  | none | bool (b : Bool) | int (i : Int) | str (n : Nat) | sstr (j : Nat) | list (l : ST) | tup (l : ST) | nil | cons (a l : ST)
noncomputable def ST.sel {β : Type} (o : ST) (n : β) (none' : β := n) (bool' : Bool → β := fun _ => n) (int' : Int → β := fun _ => n) (str' : Nat → β := fun _ => n) (sstr' : Nat → β := fun _ => n) (list' : ST → β := fun _ => n) (tup' : ST → β := fun _ => n) (nil' : β := n) (cons' : ST → ST → β := fun _ _ => n) : β := match o with
  | .none => none'
  | .bool x0 => bool' x0
  | .int x0 => int' x0
  | .str x0 => str' x0
  | .sstr x0 => sstr' x0
  | .list x0 => list' x0
  | .tup x0 => tup' x0
  | .nil => nil'
  | .cons x0 x1 => cons' x0 x1
noncomputable def rdL (f : SV → Option ST) (xs : List SV) : Option ST := xs.foldr (fun x r => (f x).bind fun a => r.bind fun l => some (.cons a l)) (some .nil)
noncomputable def rdS (σ : SS) (n : Nat) : SV → Option ST := Nat.repeat (fun ih v => v.sel none (none' := some .none) (bool' := fun b => some (.bool b)) (int' := fun i => some (.int i)) (str' := fun k => wh (Nat.blt k 190) (some (.str k))) (sstr' := fun j => some (.sstr j))
    (ref' := fun i => σ.on i fun o => o.sel none (list' := fun xs => (rdL ih xs).bind fun l => some (.list l)) (tup' := fun xs => (rdL ih xs).bind fun l => some (.tup l)))) n fun _ => none
noncomputable def ST.ch (a : ST) : Bool := a.sel false (nil' := true) (cons' := fun _ _ => true)
noncomputable def eqS (a : ST) : ST → Option Bool := match a with
  | .none => fun b => b.sel none (none' := some true)
  | .bool x => fun b => b.sel none (bool' := fun y => some (x == y))
  | .int x => fun b => b.sel none (int' := fun y => some (decide (x = y)))
  | .str x => fun b => b.sel none (str' := fun y => some (Nat.beq x y))
  | .sstr x => fun b => b.sel none (sstr' := fun y => wh (Nat.beq x y) (some true))
  | .list x => fun b => b.sel none (list' := fun y => wh x.ch (eqS x y))
  | .tup x => fun b => b.sel none (tup' := fun y => wh x.ch (eqS x y))
  | .nil => fun b => b.sel none (nil' := some true) (cons' := fun _ _ => some false)
  | .cons x l => fun b => b.sel none (nil' := some false) (cons' := fun y m => wh (!x.ch && l.ch) ((eqS x y).bind fun t => cond t (eqS l m) (some false)))
noncomputable def eqV (σ : SS) (a b : SV) : Option Bool := (rdS σ 8 a).bind fun x => (rdS σ 8 b).bind fun y => wh (!x.ch) (eqS x y)
noncomputable def iop (o : Nat) (a b : Int) : Option Int := match o with
  | 0 => some (a + b) | 1 => some (a - b) | 2 => some (a * b) | 3 => some (Int.fdiv a b) | 4 => some (Int.fmod a b) | _ => none
noncomputable def getItem (σ : SS) (o k : SV) : Option SV := onR o fun i => σ.on i fun o => o.sel none (list' := fun xs => (k.sel none (int' := fun n => (match n with | .ofNat n => wh (Nat.blt n 1000) xs[n]? | .negSucc _ => none)))) (dict' := fun es => onS k fun n => lk es n) (alist' := fun l => rowLget l k σ.rows)
noncomputable def setItem (σ : SS) (o k v : SV) : Option SS := onR o fun i => σ.on i fun o => o.sel none
  (dict' := fun es => k.sel (wh es.isEmpty ((rowDput none k v σ.rows).bind fun d => some (σ.set i (.adict d)))) (str' := fun n => wh (smallD es) (some (σ.set i (.dict (put es n v))))))
  (adict' := fun d => (rowDput (some d) k v σ.rows).bind fun d' => some (σ.set i (.adict d')))
noncomputable def getAttr (P : PT) (σ : SS) (o : SV) (a : Nat) : Option SV := o.sel none
  (ref' := fun i => σ.on i fun o => o.sel none
    (inst' := fun C d => (lk P.classes C).bind fun l => σ.onD d fun es => optE (lk l a) (lk es a) fun c => c.sel none (val' := fun w => optE (lk es a) (some w) some))
    (exc' := fun C d => σ.onE d fun es => wh (Nat.beq C 849 && (!Nat.beq d 0 && (Nat.beq a n_who || Nat.beq a n_what))) (lk es a)))
  (top' := fun C => (lk P.classes C).bind fun l => (lk l a).bind fun c => c.sel none (val' := fun v => some v))
noncomputable def setAttr (P : PT) (σ : SS) (o : SV) (a : Nat) (v : SV) : Option SS := onR o fun i => σ.on i fun o => o.sel none (inst' := fun C d => (lk P.classes C).bind fun _ => σ.onD d fun es => wh (smallD es) (some (σ.set d (.dict (put es a v))))) (exc' := fun C d => wh (Nat.beq C 849 && (Nat.beq a n_who || Nat.beq a n_what)) (match d with
    | 0 => some ((σ.new (.edict [(a, v)])).set i (.exc C σ.objs.length))
    | d + 1 => σ.onE (d + 1) fun es => wh (smallD es) (some (σ.set (d + 1) (.edict (put es a v))))))
noncomputable def binV (σ : SS) (o : Nat) (a b : SV) : Option (SV × SS) := a.sel none (int' := fun x => (b.sel none (int' := fun y => wh (decide (-1000 < y) && (decide (y < 1000) && (!Nat.ble 3 o || !decide (y = 0)))) ((iop o x y).bind fun r => some (.int r, σ))))) (sint' := fun _ => (rowIop o a b σ.rows).bind fun r => some (r, σ)) (ref' := fun i => onR b fun j => wh (Nat.beq o 0) (σ.onL i fun xs => σ.onL j fun ys => wh (small (xs ++ ys)) (some (.ref σ.objs.length, σ.new (.list (xs ++ ys)))))) (str' := fun _ => wh (Nat.beq o 0) ((rowCat a b σ.rows).bind fun r => some (r, σ)))
noncomputable def cmpV (σ : SS) (o : Nat) (a b : SV) : Option Bool :=
  cond (Nat.beq o 0) (isV σ a b) (cond (Nat.beq o 1) ((isV σ a b).bind fun t => some (!t)) (a.sel (cond (Nat.beq o 2) (eqV σ a b) (wh (Nat.beq o 3) ((eqV σ a b).bind fun t => some (!t))))
    (sint' := fun _ => rowIcmp o a b σ.rows) (int' := fun x => b.sel none (int' := fun y => icmp o x y))))
noncomputable def findFun (a : Nat) (l : List IFun) : Option IFun := l.find? fun f => Nat.beq f.addr a
noncomputable def bindArgs (kw df : List (Nat × SV)) (ps : List Nat) (args : List SV) : Option (List (Nat × SV)) := ps.foldr (fun p r (vs : List SV) => match vs with
  | v :: vs => (r vs).bind fun l => some ((p, v) :: l)
  | [] => optE (lk kw p) ((lk df p).bind fun v => (r []).bind fun l => some ((p, v) :: l)) fun v => (r []).bind fun l => some ((p, v) :: l)) (fun vs => wh vs.isEmpty (some [])) args
noncomputable def nodupK : List (Nat × SV) → Bool
  | [] => true
  | e :: r => (lk r e.1).isNone && nodupK r
noncomputable def memN (x : Nat) (l : List Nat) : Bool := l.any fun y => Nat.beq y x
noncomputable def kwsOK (ps : List Nat) (args : List SV) (kws : List (Nat × SV)) : Bool := nodupK kws && kws.all fun e => memN e.1 (ps.drop args.length)
noncomputable def makeCells (σ : SS) (loc : List (Nat × SV)) : List Nat → List (Nat × Nat) → List (Nat × SV) × List (Nat × Nat) × SS
  | [], cs => (loc, cs, σ)
  | c :: r, cs => makeCells (σ.new (.cell (lk loc c))) (del loc c) r ((c, σ.objs.length) :: cs)
noncomputable def frees (fr : SFr) (l : List Nat) : Option (List (Nat × Nat)) := l.foldr (fun x r => (lk fr.cel x).bind fun i => r.bind fun l => some ((x, i) :: l)) (some [])
noncomputable def next (σ : SS) (it : Nat) : Option (Option SV × SS) := σ.on it fun o => o.sel none (iter' := fun l i => σ.onL l fun xs => optE xs[i]? (some (none, σ.set it .dead)) fun v => some (some v, σ.set it (.iter l (i + 1)))) (riter' := fun a b => cond (decide (a < b)) (some (some (.int a), σ.set it (.riter (a + 1) b))) (some (none, σ)))
noncomputable def notPin (o : SObj) : Bool := o.sel true (pin' := false)
noncomputable def noPin (σ : SS) : Bool := σ.objs.all notPin
noncomputable def boolsOf (l : List SV) : Option (List Bool) := l.foldr (fun v r => v.sel none (bool' := fun b => r.bind fun l => some (b :: l))) (some [])
noncomputable def meth (P : PT) (σ : SS) (o : SV) (a : Nat) : Option (SV × List SV) := onR o fun i => σ.on i fun x => x.sel none (inst' := fun C d => (lk P.classes C).bind fun l => σ.onD d fun es => optE (lk es a) ((lk l a).bind fun c => c.sel none (fn' := fun g => some (.top g, [o]))) fun f => wh (lk l a).isNone (some (f, []))) (list' := fun _ => wh (Nat.beq a n_append || (Nat.beq a n_clear || (Nat.beq a n_extend || Nat.beq a n_sort))) (some (.blt a, [o]))) (dict' := fun _ => wh (Nat.beq a n_get) (some (.blt a, [o]))) (adict' := fun _ => wh (Nat.beq a n_get) (some (.blt a, [o])))
abbrev RS := Option (Rs × SS)
noncomputable def okv (v : SV) (σ : SS) : RS := some (.ok v, σ)
noncomputable def bAny (σ : SS) (args : List SV) : RS := on1 args fun v => onR v fun l => σ.onL l fun xs => (boolsOf xs).bind fun bs => okv (.bool (bs.any id)) (σ.new .dead)
noncomputable def bList (σ : SS) (args : List SV) : RS := on1 args fun v => onR v fun l => σ.onL l fun xs => wh (small xs) (okv (.ref σ.objs.length) (σ.new (.list xs)))
noncomputable def bLen (σ : SS) (args : List SV) : RS := on1 args fun v => onR v fun l => σ.on l fun o => o.sel none (list' := fun xs => wh (small xs) (okv (.int xs.length) σ)) (dict' := fun xs => wh (smallD xs) (okv (.int xs.length) σ)) (adict' := fun d => (rowDlen d σ.rows).bind fun r => okv r σ) (alist' := fun d => (rowLlen d σ.rows).bind fun r => okv r σ)
noncomputable def bHasattr (P : PT) (σ : SS) (args : List SV) : RS := on2 args fun v a => onR v fun i => onS a fun a => σ.onI i fun C d => σ.onD d fun es => (lk P.classes C).bind fun l =>
  wh ((lk es n__data).isNone && ((lk l n__data).isNone && (Nat.beq a n__data && Nat.beq C 556))) (okv (.bool false) σ)
noncomputable def bGetattr (P : PT) (σ : SS) (args : List SV) : RS := on3 args fun v a _ => onR v fun i => onS a fun a => σ.onI i fun C d => σ.onD d fun es => (lk P.classes C).bind fun l => wh ((lk es a).isNone && Nat.beq a n_sortKey) ((lk l a).bind fun c => c.sel none (fn' := fun g => okv (.ref σ.objs.length) (σ.new (.bm g (.ref i)))))
noncomputable def bStr (σ : SS) (args : List SV) : RS := on1 args fun v => (rowItos v σ.rows).bind fun r => okv r σ
noncomputable def bInt (σ : SS) (args : List SV) : RS := on1 args fun v => v.sel none (bool' := fun t => okv (.int (cond t 1 0)) σ)
noncomputable def bRange (σ : SS) (args : List SV) : RS := on1 args fun v => v.sel none (int' := fun k => wh (decide (-1000 ≤ k) && decide (k ≤ 1000)) (okv (.ref σ.objs.length) (σ.new (.rng 0 k))))
noncomputable def bAppend (σ : SS) (args : List SV) : RS := on2 args fun u v => onR u fun i => σ.onL i fun xs => wh (small xs) (okv .none (σ.set i (.list (xs ++ [v]))))
noncomputable def bClear (σ : SS) (args : List SV) : RS := on1 args fun u => onR u fun i => σ.onL i fun xs => wh (small xs) (okv .none (σ.set i (.list [])))
noncomputable def bExtend (σ : SS) (args : List SV) : RS := on2 args fun u v => onR u fun i => onR v fun j => σ.onL i fun xs => σ.onL j fun ys => wh (small (xs ++ ys) && !Nat.beq i j) (okv .none (σ.set i (.list (xs ++ ys))))
noncomputable def bGet (σ : SS) (args : List SV) : RS := on3 args fun u k dv => onR u fun i => σ.on i fun o => o.sel none (dict' := fun es => (k.sel none (str' := fun x => okv ((lk es x).getD dv) σ) (int' := fun _ => wh es.isEmpty (okv dv σ)))) (adict' := fun d => (rowDget d k dv σ.rows).bind fun r => okv r σ)
noncomputable def callB0 (P : PT) (b : Nat) (σ : SS) (args : List SV) : RS :=
  cond (Nat.beq b n_any) (bAny σ args) (cond (Nat.beq b n_list) (bList σ args) (cond (Nat.beq b n_len) (bLen σ args) (cond (Nat.beq b n_hasattr) (bHasattr P σ args) (cond (Nat.beq b n_getattr) (bGetattr P σ args) (cond (Nat.beq b n_str) (bStr σ args)
  (cond (Nat.beq b n_int) (bInt σ args) (cond (Nat.beq b n_range) (bRange σ args) (cond (Nat.beq b n_append) (bAppend σ args) (cond (Nat.beq b n_clear) (bClear σ args) (cond (Nat.beq b n_extend) (bExtend σ args) (wh (Nat.beq b n_get) (bGet σ args))))))))))))
structure In where
  ev : IE → Option Nat → SFr → SS → RS
  tst : IE → Option Nat → SFr → SS → Option (Bool × SS)
  call : SV → List SV → List (Nat × SV) → Option Nat → SS → RS
  exec : IS → Option Nat → SFr → SS → Option (Fl × SFr × SS)
section
variable {α β : Type}
@[irreducible] noncomputable def okE (x : RS) (k : SV → SS → Option β) : Option β := x.bind fun q => match q.1 with | .ok v => k v q.2 | .exc _ => none
@[irreducible] noncomputable def okR (x : RS) (k : Nat → SS → Option β) : Option β := okE x fun v σ => onR v fun i => k i σ
@[irreducible] noncomputable def b2 (x : Option (α × SS)) (k : α → SS → Option β) : Option β := x.bind fun q => k q.1 q.2
@[irreducible] noncomputable def b3 (x : Option (Fl × SFr × SS)) (k : Fl → SFr → SS → Option β) : Option β := x.bind fun q => k q.1 q.2.1 q.2.2
@[irreducible] noncomputable def onN (v : SV) (k : Option β) : Option β := v.sel none (none' := k)
end
section
variable (P : PT) (I : In) (hd : Option Nat) (fr : SFr)
noncomputable def evs (l : List IE) : SS → Option (List SV × SS) := l.foldr (fun e r σ => okE (I.ev e hd fr σ) fun v σ => b2 (r σ) fun vs σ => some (v :: vs, σ)) fun σ => some ([], σ)
noncomputable def evks (l : List (Nat × IE)) : SS → Option (List (Nat × SV) × SS) := l.foldr (fun e r σ => okE (I.ev e.2 hd fr σ) fun v σ => b2 (r σ) fun vs σ => some ((e.1, v) :: vs, σ)) fun σ => some ([], σ)
noncomputable def evp (ks : List IE) : List IE → SS → Option (List (Nat × SV) × SS) := ks.foldr (fun k r vs σ => match vs with
  | [] => none
  | v :: vs => okE (I.ev k hd fr σ) fun s σ => onS s fun s => okE (I.ev v hd fr σ) fun x σ => b2 (r vs σ) fun es σ => some ((s, x) :: es, σ)) fun vs σ => wh vs.isEmpty (some ([], σ))
noncomputable def truth (v : SV) (σ : SS) : Option (Bool × SS) := v.sel none (none' := some (false, σ)) (bool' := fun b => some (b, σ)) (int' := fun i => some (!decide (i = 0), σ))
  (ref' := fun i => σ.on i fun o => o.sel none (list' := fun xs => wh (small xs) (some (!xs.isEmpty, σ))) (dict' := fun es => wh (smallD es) (some (!es.isEmpty, σ))) (adict' := fun _ => some (true, σ))
    (inst' := fun C d => (lk P.classes C).bind fun l => σ.onD d fun _ => optE (lk l n___len__) (some (true, σ)) fun c => c.sel none
      (fn' := fun g => okE (I.call (.top g) [v] [] hd σ) fun k σ => (k.sel none (int' := fun k => wh (decide (0 ≤ k) && decide (k ≤ 1000)) (some (!decide (k = 0), σ)))))))
noncomputable def evb (isAnd : Bool) (l : List IE) : SV → SS → Option (SV × SS) := l.foldr (fun e r v σ => b2 (truth P I hd v σ) fun t σ => cond (Bool.xor t isAnd) (some (v, σ)) (okE (I.ev e hd fr σ) r)) fun v σ => some (v, σ)
noncomputable def tsb (isAnd : Bool) (l : List IE) : SS → Option (Bool × SS) := l.foldr (fun e r σ => b2 (I.tst e hd fr σ) fun t σ => cond (Bool.xor t isAnd) (some (t, σ)) (r σ)) fun σ => some (isAnd, σ)
noncomputable def cmpO (o : Nat) (a b : SV) (σ : SS) : Option (Bool × SS) := cond (Nat.beq o 5)
  ((meth P σ b n___contains__).bind fun m => onR b fun _ => (m.1.sel none (top' := fun g => on1 m.2 fun _ => okE (I.call (.top g) [b, a] [] hd σ) fun t σ => (t.sel none (bool' := fun t => some (!t, σ))))))
  ((cmpV σ o a b).bind fun t => some (t, σ))
noncomputable def cmpE (o : Nat) (l r : IE) (σ : SS) : Option (Bool × SS) := okE (I.ev l hd fr σ) fun a σ => okE (I.ev r hd fr σ) fun b σ => cmpO P I hd o a b σ
noncomputable def condT (c : Option IE) (σ : SS) : Option (Bool × SS) := match c with | none => some (true, σ) | some c => I.tst c hd fr σ
noncomputable def SFr.put (fr : SFr) (x : Nat) (v : SV) : SFr := ⟨Mine.put fr.loc x v, fr.cel⟩
noncomputable def compT (elt : IE) (x : Nat) (c : Option IE) (it acc : Nat) (r : SS → Option SS) (σ : SS) : Option SS := b2 (next σ it) fun ov σ => match ov with
  | none => some σ
  | some v => b2 (condT I hd (fr.put x v) c σ) fun t σ => cond t (okE (I.ev elt hd (fr.put x v) σ) fun y σ => σ.onL acc fun ys => wh (small ys) (r (σ.set acc (.list (ys ++ [y]))))) (r σ)
noncomputable def compN (elt : IE) (x : Nat) (c : Option IE) (it acc : Nat) (n : Nat) : SS → Option SS := Nat.repeat (compT I hd fr elt x c it acc) n fun _ => none
noncomputable def overO (l : Nat) (o : SObj) : Option SObj := o.sel none (list' := fun _ => some (.iter l 0)) (rng' := fun a b => some (.riter a b))
noncomputable def ev1 (e : IE) (σ : SS) : RS := match e with
  | .bad => none
  | .none => okv .none σ
  | .tru => okv (.bool true) σ
  | .fls => okv (.bool false) σ
  | .int i => okv (.int i) σ
  | .str s => okv (.str s) σ
  | .loc x => (lk fr.loc x).bind fun v => okv v σ
  | .cel x => (lk fr.cel x).bind fun i => σ.onC i fun v => okv v σ
  | .fre x => (lk fr.cel x).bind fun i => σ.onC i fun v => okv v σ
  | .glob x => (lk P.globs x).bind fun v => okv v σ
  | .attr o a => okE (I.ev o hd fr σ) fun o σ => (getAttr P σ o a).bind fun v => okv v σ
  | .sub o i => okE (I.ev o hd fr σ) fun o σ => okE (I.ev i hd fr σ) fun i σ => (getItem σ o i).bind fun v => okv v σ
  | .call f args => okE (I.ev f hd fr σ) fun f σ => b2 (evs I hd fr args σ) fun vs σ => I.call f vs [] hd σ
  | .srt d => wh hd.isNone ((lk P.globs n_sorted).bind fun s => wh (SV.eqb s (.blt n_sorted)) (okR (I.ev d hd fr σ) fun i σ => σ.onA i fun j => okv (.ref σ.objs.length) (σ.new (.apairs j))))
  | .mcall o a args kws => okE (I.ev o hd fr σ) fun o σ => (meth P σ o a).bind fun m => b2 (evs I hd fr args σ) fun vs σ => b2 (evks I hd fr kws σ) fun ks σ => I.call m.1 (m.2 ++ vs) ks hd σ
  | .lam k => (P.codes[k]?).bind fun c => (frees fr c.frees).bind fun cs => okv (.ref σ.objs.length) (σ.new (.fn k cs))
  | .comp elt x it c fs => okR (I.ev it hd fr σ) fun l σ => (frees fr fs).bind fun cs => σ.on l fun o => (overO l o).bind fun so =>
      (compN I hd ⟨[], cs⟩ elt x c σ.objs.length (σ.objs.length + 1) 30 ((σ.new so).new (.list []))).bind fun σ' => okv (.ref (σ.objs.length + 1)) σ'
  | .cmp o l r => b2 (cmpE P I hd fr o l r σ) fun b σ => okv (.bool b) σ
  | .bop isAnd l => (match l with | [] => none | e :: l => okE (I.ev e hd fr σ) fun v σ => b2 (evb P I hd fr isAnd l v σ) fun v σ => okv v σ)
  | .not e => okE (I.ev e hd fr σ) fun v σ => b2 (truth P I hd v σ) fun b σ => okv (.bool (!b)) σ
  | .bin o l r => okE (I.ev l hd fr σ) fun a σ => okE (I.ev r hd fr σ) fun b σ => b2 (binV σ o a b) fun v σ => okv v σ
  | .dict ks vs => (match ks with
    | [] => wh vs.isEmpty (okv (.ref σ.objs.length) (σ.new (.dict [])))
    | _ :: _ => b2 (evp I hd fr ks vs (σ.new (.dict []))) fun es σ₁ => σ₁.onD σ.objs.length fun z => wh (z.isEmpty && (Nat.ble es.length 15 && nodupK es)) (okv (.ref σ.objs.length) (σ₁.set σ.objs.length (.dict es))))
  | .list l => b2 (evs I hd fr l σ) fun vs σ => wh (small vs) (okv (.ref σ.objs.length) (σ.new (.list vs)))
  | .tup l => b2 (evs I hd fr l σ) fun vs σ => wh (small vs) (okv (.ref σ.objs.length) (σ.new (.tup vs)))
  | .ite c a b => b2 (I.tst c hd fr σ) fun t σ => okE (I.ev (cond t a b) hd fr σ) fun v σ => okv v σ
noncomputable def tst1 (e : IE) (σ : SS) : Option (Bool × SS) := e.sel (okE (I.ev e hd fr σ) fun v σ => truth P I hd v σ) (not' := fun x => b2 (I.tst x hd fr σ) fun b σ => some (!b, σ))
  (bop' := fun isAnd l => tsb I hd fr isAnd l σ) (cmp' := fun o l r => cmpE P I hd fr o l r σ) (ite' := fun _ _ _ => none)
noncomputable def callF (ps : List Nat) (df : List (Nat × SV)) (cells : List Nat) (frs : List (Nat × Nat)) (args : List SV) (kws : List (Nat × SV)) (σ : SS) {β : Type} (k : SFr → SS → Option β) : Option β :=
  wh (kwsOK ps args kws) ((bindArgs kws df ps args).bind fun loc => k ⟨(makeCells σ loc cells frs).1, (makeCells σ loc cells frs).2.1⟩ (makeCells σ loc cells frs).2.2)
noncomputable def execs (l : List IS) : SFr → SS → Option (Fl × SFr × SS) := l.foldr (fun s r fr σ => b3 (I.exec s hd fr σ) fun fl fr σ => match fl with
  | .next => r fr σ
  | fl => some (fl, fr, σ)) fun fr σ => some (.next, fr, σ)
noncomputable def rsOf (fl : Fl) : Rs := match fl with | .next => .ok .none | .ret v => .ok v | .exc e => .exc e
noncomputable def bSort (b kn : Nat) (fv : SV) (args : List SV) (σ : SS) : RS := wh (Nat.beq b n_sort && (Nat.beq kn n_key && noPin σ)) (on1 args fun u => onR u fun i => σ.onL i fun xs => fv.sel none (top' := fun g => (match xs with
    | [] => okv .none σ
    | x :: r => wh r.isEmpty (okE (I.call (.top g) [x] [] hd ((σ.set i .pin).new (.list []))) fun z σ' => (z.sel none (int' := fun _ => σ'.on i fun o => wh (!notPin o) (σ'.onL σ.objs.length fun ys => wh (ys.isEmpty && noPin (σ'.set i (.list [x]))) (okv .none (σ'.set i (.list [x]))))))))))
noncomputable def callB (b : Nat) (args : List SV) (kws : List (Nat × SV)) (σ : SS) : RS := match kws with
  | [] => cond (Nat.beq b n_bool) (on1 args fun v => b2 (truth P I hd v σ) fun t σ => okv (.bool t) σ) (callB0 P b σ args)
  | k :: r => wh r.isEmpty (bSort I hd b k.1 k.2 args σ)
noncomputable def callT (a : Nat) (args : List SV) (kws : List (Nat × SV)) (σ : SS) : RS :=
  optE (findFun a P.funs) (optE (lk P.classes a)
    (wh (Nat.beq a 849 && (Nat.ble args.length 9 && (kws.isEmpty && !σ.objs.isEmpty))) (okE (I.call (.top 846) (.ref σ.objs.length :: args) [] hd (σ.new (.exc a 0))) fun v σ' => onN v (okv (.ref σ.objs.length) σ')))
    fun l => (lk l n___init__).bind fun c => match c with
      | .fn g => okE (I.call (.top g) (.ref (σ.objs.length + 1) :: args) kws hd ((σ.new (.dict [])).new (.inst a σ.objs.length))) fun v σ' => onN v (okv (.ref (σ.objs.length + 1)) σ')
      | .obj => wh (args.isEmpty && kws.isEmpty) (okv (.ref (σ.objs.length + 1)) ((σ.new (.dict [])).new (.inst a σ.objs.length)))
      | .val _ => none)
    fun F => callF F.params F.dflts F.cells [] args kws σ fun fr σ => b3 (execs I hd F.body fr σ) fun fl _ σ => some (rsOf fl, σ)
noncomputable def call1 (f : SV) (args : List SV) (kws : List (Nat × SV)) (σ : SS) : RS := f.sel none (top' := fun a => callT P I hd a args kws σ)
  (ref' := fun i => σ.on i fun o => o.sel none
    (fn' := fun k cs => (P.codes[k]?).bind fun C => callF C.params [] [] cs args kws σ fun fr σ => optE C.lam (b3 (execs I hd C.body fr σ) fun fl _ σ => some (rsOf fl, σ)) fun e => okE (I.ev e hd fr σ) fun v σ => okv v σ)
    (bm' := fun g self => (findFun g P.funs).bind fun _ => I.call (.top g) (self :: args) kws hd σ))
  (blt' := fun b => callB P I hd b args kws σ)
noncomputable def store1 (t : TG) (v : SV) (σ : SS) : Option (SFr × SS) := match t with
  | .tn x b => cond b ((lk fr.cel x).bind fun i => σ.on i fun o => (o.sel none (cell' := fun _ => some (fr, σ.set i (.cell (some v)))))) (some (fr.put x v, σ))
  | .ta e a => okE (I.ev e hd fr σ) fun o σ => (setAttr P σ o a v).bind fun σ => some (fr, σ)
  | .ts e i => okE (I.ev e hd fr σ) fun o σ => okE (I.ev i hd fr σ) fun k σ => (setItem σ o k v).bind fun σ => some (fr, σ)
  | .tt _ => none
end
section
variable (P : PT) (I : In) (hd : Option Nat)
noncomputable def stores (ts : List TG) : List SV → SFr → SS → Option (SFr × SS) := ts.foldr (fun t r vs fr σ => match vs with
  | [] => none
  | v :: vs => b2 (store1 P I hd fr t v σ) fun fr σ => r vs fr σ) fun vs fr σ => wh vs.isEmpty (some (fr, σ))
noncomputable def store (t : TG) (v : SV) (fr : SFr) (σ : SS) : Option (SFr × SS) := match t with
  | .tt l => onR v fun i => σ.on i fun o => (o.sel none (tup' := fun xs => stores P I hd l xs fr σ))
  | t => store1 P I hd fr t v σ
noncomputable def storeAll (ts : List TG) (v : SV) : SFr → SS → Option (SFr × SS) := ts.foldr (fun t r fr σ => b2 (store P I hd t v fr σ) fun fr σ => r fr σ) fun fr σ => some (fr, σ)
noncomputable def loopT (t : TG) (it : Nat) (b : List IS) (r : SFr → SS → Option (Fl × SFr × SS)) (fr : SFr) (σ : SS) : Option (Fl × SFr × SS) := b2 (next σ it) fun ov σ => match ov with
  | none => some (.next, fr, σ)
  | some v => b2 (store P I hd t v fr σ) fun fr σ => b3 (execs I hd b fr σ) fun fl fr σ => match fl with
    | .next => r fr σ
    | fl => some (fl, fr, σ)
noncomputable def loopN (t : TG) (it : Nat) (b : List IS) (n : Nat) : SFr → SS → Option (Fl × SFr × SS) := Nat.repeat (loopT P I hd t it b) n fun _ _ => none
noncomputable def putAll (ps : List Nat) (vs : List SV) (loc : List (Nat × SV)) : List (Nat × SV) := (ps.zip vs).foldl (fun l p => put l p.1 p.2) loc
noncomputable def exFeed (it : IE) (x y : Nat) (fr : SFr) (σ : SS) : Option (Fl × SFr × SS) := wh hd.isNone (okR (I.ev it none fr σ) fun i σ => σ.on i fun o => o.sel none (apairs' := fun j => (lk fr.cel x).bind fun c => σ.onC c fun d => onR d fun d => σ.onD d fun es => (lk es y).bind fun l => onR l fun l => σ.onL l fun xs => wh (small xs) ((rowDapp j xs σ.rows).bind fun ys => some (.next, ⟨[], fr.cel⟩, σ.set l (.list ys)))))
noncomputable def exCopy (x y u v : Nat) (fr : SFr) (σ : SS) : Option (Fl × SFr × SS) := wh hd.isNone ((lk fr.loc u).bind fun du => onR du fun du => (lk fr.loc x).bind fun dx => onR dx fun dx => σ.onD du fun es => σ.onD dx fun es' => (lk es v).bind fun i => onR i fun i => (lk es' y).bind fun l => onR l fun l =>
  σ.onA i fun j => σ.onL l fun xs => wh (small xs) ((rowDapp j xs σ.rows).bind fun ys => some (.next, ⟨delA fr.loc n_k, fr.cel⟩, σ.set l (.list ys))))
noncomputable def exec1 (s : IS) (fr : SFr) (σ : SS) : Option (Fl × SFr × SS) := match s with
  | .bad => none
  | .pass => some (.next, fr, σ)
  | .expr e => b2 (I.ev e hd fr σ) fun r σ => match r with | .ok _ => some (.next, fr, σ) | .exc x => some (.exc x, fr, σ)
  | .asgn ts e => okE (I.ev e hd fr σ) fun v σ => b2 (storeAll P I hd ts v fr σ) fun fr σ => some (.next, fr, σ)
  | .swap ps l => b2 (evs I hd fr l σ) fun vs σ => wh (small vs && Nat.beq ps.length vs.length) (some (.next, ⟨putAll ps.reverse vs.reverse fr.loc, fr.cel⟩, σ.new (.tup vs)))
  | .ret e => (match e with
    | none => some (.ret .none, fr, σ)
    | some e => b2 (I.ev e hd fr σ) fun r σ => match r with | .ok v => some (.ret v, fr, σ) | .exc x => some (.exc x, fr, σ))
  | .ife c a b => b2 (I.tst c hd fr σ) fun t σ => execs I hd (cond t a b) fr σ
  | .for_ t it b => okR (I.ev it hd fr σ) fun l σ => σ.on l fun o => (overO l o).bind fun so => loopN P I hd t σ.objs.length b 30 fr (σ.new so)
  | .feed it x y => exFeed I hd it x y fr σ
  | .copy x y u v => exCopy hd x y u v fr σ
  | .raise e => okR (I.ev e hd fr σ) fun i σ => σ.onX i fun C _ => wh (hd.isNone && Nat.beq C 849) (some (.exc i, fr, σ))
  | .reraise => hd.bind fun e => σ.onX e fun _ _ => some (.exc e, fr, σ)
  | .delsl e => okR (I.ev e hd fr σ) fun l σ => σ.onL l fun xs => wh (Nat.ble xs.length 1) (some (.next, fr, σ.set l (.list [])))
  | .defn x k => (P.codes[k]?).bind fun c => (frees fr c.frees).bind fun cs => some (.next, fr.put x (.ref σ.objs.length), σ.new (.fn k cs))
  | .tryN b o => b3 (execs I hd b fr σ) fun fl fr σ => (fl.sel none (next' := execs I hd o fr σ))
  | .tryB b h o => b3 (execs I hd b fr σ) fun fl fr σ => (match fl with
    | .next => execs I hd o fr σ
    | .exc e => wh hd.isNone (execs I (some e) h fr σ)
    | .ret _ => none)
  | .tryA g x b h o => b3 (execs I hd b fr σ) fun fl fr σ => (match fl with
    | .next => execs I hd o fr σ
    | .exc e => wh hd.isNone ((lk P.globs g).bind fun c => wh (SV.eqb c (.top 849)) (σ.onX e fun D _ => wh (Nat.beq D 849) (b3 (execs I (some e) h (fr.put x (.ref e)) σ) fun fl fr σ => (fl.sel none (ret' := fun v => some (.ret v, ⟨[], fr.cel⟩, σ))))))
    | .ret _ => none)
  | .tryF b f => b3 (execs I hd b fr σ) fun fl fr σ => (match fl with
    | .exc _ => none
    | fl => b3 (execs I hd f fr σ) fun fl' fr σ => (fl'.sel none (next' := some (fl, fr, σ))))
end
noncomputable def step (P : PT) (I : In) : In := ⟨fun e hd fr σ => ev1 P I hd fr e σ, fun e hd fr σ => tst1 P I hd fr e σ, fun f a k hd σ => call1 P I hd f a k σ, fun s hd fr σ => exec1 P I hd s fr σ⟩
noncomputable def run (P : PT) (n : Nat) : In := Nat.repeat (step P) n ⟨fun _ _ _ _ => none, fun _ _ _ _ => none, fun _ _ _ _ _ => none, fun _ _ _ _ => none⟩
end Mine
namespace Mine
open PySem PySem.W PyProof.Rows PySem.Calls
inductive An (a b : Prop) : Prop | mk (l : a) (r : b)
theorem An.and {a b : Prop} (h : An a b) : a ∧ b := ⟨h.1, h.2⟩
theorem an_of {a b : Prop} (h : a ∧ b) : An a b := ⟨h.1, h.2⟩
theorem an_bool {a b : Bool} (h : (a && b) = true) : An (a = true) (b = true) := an_of (Bool.and_eq_true_iff.mp h)
theorem absR {a : Prop} {C : Prop} (h : a) (n : ¬a) : C := absurd h n
noncomputable def Ok {α : Type} (x : Option α) (φ : α → Prop) : Prop := ∀ a, x = some a → φ a
abbrev Ok2 {α β : Type} (x : Option (α × β)) (φ : α → β → Prop) : Prop := Ok x fun q => φ q.1 q.2
abbrev Ok3 {α β γ : Type} (x : Option (α × β × γ)) (φ : α → β → γ → Prop) : Prop := Ok x fun q => φ q.1 q.2.1 q.2.2
section
variable {α β γ : Type} {φ : β → Prop}
theorem Ok.nil : Ok (none : Option β) φ := fun _ h => nomatch h
theorem Ok.ret {b : β} (h : φ b) : Ok (some b) φ := fun _ e => Option.some.inj e ▸ h
theorem Ok.at {x : Option β} {b : β} (H : Ok x φ) (e : x = some b) : φ b := H b e
theorem Ok.wh {b : Bool} {x : Option β} (c : b = true → Ok x φ) : Ok (wh b x) φ := by with_unfolding_all exact (match b, c with | true, c => c rfl | false, _ => Ok.nil)
theorem Ok.cond {b : Bool} {x y : Option β} (t : b = true → Ok x φ) (f : b = false → Ok y φ) : Ok (cond b x y) φ := match b with | true => t rfl | false => f rfl
theorem Ok.bind {x : Option α} {k : α → Option β} (c : ∀ a, x = some a → Ok (k a) φ) : Ok (x.bind k) φ := match x with | none => .nil | some a => c a rfl
theorem Ok.then {ψ : α → Prop} {x : Option α} {k : α → Option β} (H : Ok x ψ) (c : ∀ a, ψ a → Ok (k a) φ) : Ok (x.bind k) φ := .bind fun a e => c a (H a e)
theorem Ok.opt {x : Option α} {n : Option β} {s : α → Option β} (cn : x = none → Ok n φ) (cs : ∀ a, x = some a → Ok (s a) φ) : Ok (optE x n s) φ := by with_unfolding_all exact (match x, cn, cs with | none, cn, _ => cn rfl | some a, _, cs => cs a rfl)
theorem Ok.all {ι : Sort u} {x : Option α} {ψ : ι → α → Prop} (H : ∀ i, Ok x (ψ i)) : Ok x fun a => ∀ i, ψ i a := fun a e i => H i a e
theorem Ok.mono {x : Option β} {ψ : β → Prop} (H : Ok x ψ) (h : ∀ b, ψ b → φ b) : Ok x φ := fun b e => h b (H b e)
theorem Ok.okE {x : RS} {ψ : Rs → SS → Prop} {k : SV → SS → Option β} (H : Ok2 x ψ) (c : ∀ v σ, ψ (.ok v) σ → Ok (k v σ) φ) : Ok (okE x k) φ := by
  unfold Mine.okE
  refine .then H fun q h => ?_
  obtain ⟨r, σ⟩ := q
  cases r with
  | ok v => exact c v σ h
  | exc => exact .nil
theorem Ok.onR {v : SV} {k : Nat → Option β} (c : ∀ i, v = .ref i → Ok (k i) φ) : Ok (onR v k) φ := by unfold Mine.onR; cases v with | ref i => exact c i rfl | _ => exact .nil
theorem Ok.onS {v : SV} {k : Nat → Option β} (c : ∀ i, v = .str i → Ok (k i) φ) : Ok (onS v k) φ := by unfold Mine.onS; cases v with | str i => exact c i rfl | _ => exact .nil
theorem Ok.okR {x : RS} {ψ : Rs → SS → Prop} {k : Nat → SS → Option β} (H : Ok2 x ψ) (c : ∀ i σ, ψ (.ok (.ref i)) σ → Ok (k i σ) φ) : Ok (okR x k) φ := by unfold Mine.okR; exact .okE H fun _ σ h => .onR fun i e => c i σ (e ▸ h)
theorem Ok.b2 {x : Option (α × SS)} {ψ : α → SS → Prop} {k : α → SS → Option β} (H : Ok2 x ψ) (c : ∀ a σ, ψ a σ → Ok (k a σ) φ) : Ok (b2 x k) φ := by unfold Mine.b2; exact .then H fun q h => c q.1 q.2 h
theorem Ok.b3 {x : Option (Fl × SFr × SS)} {ψ : Fl → SFr → SS → Prop} {k : Fl → SFr → SS → Option β} (H : Ok3 x ψ) (c : ∀ fl fr σ, ψ fl fr σ → Ok (k fl fr σ) φ) : Ok (b3 x k) φ := by unfold Mine.b3; exact .then H fun q h => c q.1 q.2.1 q.2.2 h
theorem Ok.on {σ : SS} {i : Nat} {K : SObj → Option β} (c : ∀ o, σ.objs[i]? = some o → Ok (K o) φ) : Ok (σ.on i K) φ := by unfold SS.on; exact .bind c
theorem Ok.onL {σ : SS} {i : Nat} {k : List SV → Option β} (c : ∀ xs, σ.objs[i]? = some (.list xs) → Ok (k xs) φ) : Ok (σ.onL i k) φ := by unfold SS.onL; exact .on fun o e => by cases o with | list xs => exact c xs e | _ => exact .nil
theorem Ok.onD {σ : SS} {i : Nat} {k : List (Nat × SV) → Option β} (c : ∀ xs, σ.objs[i]? = some (.dict xs) → Ok (k xs) φ) : Ok (σ.onD i k) φ := by unfold SS.onD; exact .on fun o e => by cases o with | dict xs => exact c xs e | _ => exact .nil
theorem Ok.onI {σ : SS} {i : Nat} {k : Nat → Nat → Option β} (c : ∀ C d, σ.objs[i]? = some (.inst C d) → Ok (k C d) φ) : Ok (σ.onI i k) φ := by unfold SS.onI; exact .on fun o e => by cases o with | inst C d => exact c C d e | _ => exact .nil
theorem Ok.onX {σ : SS} {i : Nat} {k : Nat → Nat → Option β} (c : ∀ C d, σ.objs[i]? = some (.exc C d) → Ok (k C d) φ) : Ok (σ.onX i k) φ := by unfold SS.onX; exact .on fun o e => by cases o with | exc C d => exact c C d e | _ => exact .nil
theorem Ok.onC {σ : SS} {i : Nat} {k : SV → Option β} (c : ∀ v, σ.objs[i]? = some (.cell (some v)) → Ok (k v) φ) : Ok (σ.onC i k) φ := by unfold SS.onC; exact .on fun o e => by cases o with | cell v => exact .bind fun v q => c v (q ▸ e) | _ => exact .nil
theorem Ok.onA {σ : SS} {i : Nat} {k : Nat → Option β} (c : ∀ v, σ.objs[i]? = some (.adict v) → Ok (k v) φ) : Ok (σ.onA i k) φ := by unfold SS.onA; exact .on fun o e => by cases o with | adict v => exact c v e | _ => exact .nil
theorem Ok.onE {σ : SS} {i : Nat} {k : List (Nat × SV) → Option β} (c : ∀ v, σ.objs[i]? = some (.edict v) → Ok (k v) φ) : Ok (σ.onE i k) φ := by unfold SS.onE; exact .on fun o e => by cases o with | edict v => exact c v e | _ => exact .nil
theorem Ok.onN {v : SV} {k : Option β} (c : v = .none → Ok k φ) : Ok (onN v k) φ := by unfold Mine.onN; cases v with | none => exact c rfl | _ => exact .nil
theorem Ok.on1 {l : List SV} {k : SV → Option β} (c : ∀ a, l = [a] → Ok (k a) φ) : Ok (on1 l k) φ := by unfold Mine.on1; cases l with | nil => exact .nil | cons a r => cases r with | nil => exact c a rfl | cons => exact .nil
theorem Ok.on2 {l : List SV} {k : SV → SV → Option β} (c : ∀ a b, l = [a, b] → Ok (k a b) φ) : Ok (on2 l k) φ := by unfold Mine.on2; cases l with | nil => exact .nil | cons a r => exact .on1 fun b e => c a b (e ▸ rfl)
theorem Ok.on3 {l : List SV} {k : SV → SV → SV → Option β} (c : ∀ a b d, l = [a, b, d] → Ok (k a b d) φ) : Ok (on3 l k) φ := by unfold Mine.on3; cases l with | nil => exact .nil | cons a r => exact .on2 fun b d e => c a b d (e ▸ rfl)
theorem Ok.row {rs : List Row} {K : Row → Option β} (c : ∀ r ∈ rs, Ok (K r) φ) : Ok (rowF rs K) φ := by
  unfold rowF
  intro b h
  obtain ⟨r, hr, e⟩ := List.exists_of_findSome?_eq_some h
  exact c r hr b e
end
structure Val where
  int : Nat → Int
  str : Nat → PySem.Str
  dic : Nat → List (Int × PySem.Str)
  lst : Nat → List Value
noncomputable def names' : List PySem.Str := names.map PySem.Str.ofString
noncomputable def nm (n : Nat) : PySem.Str := names'.getD n ⟨#[n + 2000000]⟩
noncomputable def blts : List (Nat × Value) := [(n_list, .type "list"), (n_bool, .type "bool"), (n_str, .type "str"), (n_int, .type "int"), (n_range, .type "range"), (n_Exception, .type "Exception"), (n_BaseException, .type "BaseException"),
  (n_any, .builtin "any"), (n_len, .builtin "len"), (n_sorted, .builtin "sorted"), (n_hasattr, .builtin "hasattr"), (n_getattr, .builtin "getattr"), (n_append, .builtin "list.append"), (n_clear, .builtin "list.clear"), (n_extend, .builtin "list.extend"),
  (n_sort, .builtin "list.sort"), (n_get, .builtin "dict.get")]
noncomputable def bltV (n : Nat) : Value := (lk blts n).getD .none
noncomputable def Den (V : Val) (ρ : Nat → Addr) (v : SV) (x : Value) : Prop := match v with
  | .none => x = .none
  | .bool b => x = .bool b
  | .int i => ∃ t, x = .int i t
  | .sint j => ∃ t, x = .int (V.int j) t
  | .str n => ∃ t, x = .str (nm n) t
  | .sstr j => ∃ t, x = .str (V.str j) t
  | .cstr n t => x = .str (nm n) t
  | .top a => x = .ref a
  | .blt n => x = bltV n
  | .ref i => x = .ref (ρ i)
  | .opq _ => handedIn x = true
inductive All2 {α β : Type} (R : α → β → Prop) : List α → List β → Prop
  | nil : All2 R [] []
  | cons {a b l m} : R a b → All2 R l m → All2 R (a :: l) (b :: m)
structure CodeSpec where
  name : PySem.Str
  qual : PySem.Str
  params : Arguments
  body : FuncBody
  scope : Scope
structure Tab where
  P : Addr
  at_ : List (Pos × PySem.Str)
structure Gl where
  prog : Program
  w : World
  V : Val
  code : Nat → CodeSpec
  pm : Value
  os : OsState
  K : Frag
  mg : PySem.Str → Option Value
  mb : PySem.Str → Option Value
  tabOf : Addr → Option Tab
  pin : Obj
abbrev Gl.M (G : Gl) : Model := model G.prog G.w
noncomputable def cellsOf (ρ : Nat → Addr) (cs : List (Nat × Nat)) : List (PySem.Str × Addr) := cs.map fun p => (nm p.1, ρ p.2)
noncomputable def excD (ρ : Nat → Addr) : Nat → Option Addr | 0 => none | d + 1 => some (ρ (d + 1))
inductive Cl | non | kept | fr | lo | ob (i : Nat) | tab | tb (i : Nat)
theorem Cl.ob_inj {i j : Nat} (h : Cl.ob i = Cl.ob j) : i = j := Cl.noConfusion h id
noncomputable def SV.lt (n : Nat) (v : SV) : Prop := v.sel True (ref' := fun i => i < n)
noncomputable def SObj.lt (n : Nat) (o : SObj) : Prop := o.sel True (list' := fun xs => ∀ v ∈ xs, v.lt n) (tup' := fun xs => ∀ v ∈ xs, v.lt n) (dict' := fun es => ∀ e ∈ es, e.2.lt n) (edict' := fun es => ∀ e ∈ es, e.2.lt n)
  (inst' := fun _ d => d < n) (cell' := fun v => match v with | none => True | some v => v.lt n) (fn' := fun _ cs => ∀ e ∈ cs, e.2 < n) (bm' := fun _ v => v.lt n) (iter' := fun l _ => l < n) (exc' := fun _ d => d < n)
noncomputable def EN (V : Val) (ρ : Nat → Addr) (e : Nat × SV) (kv : PySem.Str × Value) : Prop := An (kv.1 = nm e.1) (Den V ρ e.2 kv.2)
noncomputable def EI (e kv : Int × PySem.Str) : Prop := kv = e
inductive DD {K : Type} [DecidableEq K] {prog : Program} {w : World} (knd : KeyKind prog w K) (kvs : List (K × Value)) : Obj → Prop | mk (des : List DictEntry) (ep : Nat) (k : KeysOf knd des.toArray) (p : Pairs knd des kvs) (n : (kvs.map (·.1)).Nodup) : DD knd kvs (dictOf des ep)
noncomputable def LkAt (V : Val) (ρ : Nat → Addr) (x : Option SV) (y : Option Value) : Prop := match x with | none => y = none | some v => ∃ z, y = some z ∧ Den V ρ v z
inductive LD (V : Val) (ρ : Nat → Addr) (xs : List SV) : Obj → Prop | mk (vs : List Value) (n : Nat) (r : All2 (Den V ρ) xs vs) : LD V ρ xs (listOf (List.toArray vs) n)
inductive UD (V : Val) (ρ : Nat → Addr) (xs : List SV) : Obj → Prop | mk (vs : List Value) (n : Nat) (r : All2 (Den V ρ) xs vs) : UD V ρ xs { cls := .type "tuple", data := .seq (List.toArray vs) n }
inductive ED (G : Gl) (ρ : Nat → Addr) (es : List (Nat × SV)) (o : Obj) : Prop | mk (kvs : List (PySem.Str × Value)) (d : DD (strKind G.prog G.w) kvs o) (r : All2 (EN G.V ρ) es kvs)
inductive AD (G : Gl) (j : Nat) (o : Obj) : Prop | mk (kvs : List (Int × Value)) (d : DD (intKind G.prog G.w) kvs o) (r : All2 (fun (e : Int × PySem.Str) (kv : Int × Value) => An (kv.1 = e.1) (∃ t, kv.2 = .str e.2 t)) (G.V.dic j) kvs) (ne : kvs ≠ []) (le : kvs.length ≤ 60)
inductive CD (V : Val) (ρ : Nat → Addr) (v : Option SV) (o : Obj) : Prop | mk (x : Option Value) (d : o.data = .cell x) (r : match v with | none => True | some v => ∃ y, x = some y ∧ Den V ρ v y)
inductive FnD (G : Gl) (ρ : Nat → Addr) (k : Nat) (cs : List (Nat × Nat)) : Obj → Prop | mk (c ct doc : Value) : FnD G ρ k cs { cls := .type "function", data := .func { name := (G.code k).name, qualname := (G.code k).qual, params := (G.code k).params, body := (G.code k).body, scope := (G.code k).scope, globals := mainGlobals, closure := cellsOf ρ cs, defaults := .none, kwdefaults := .none, doc := doc, pyModule := G.pm, annotations := none, code := c, closureTuple := ct, builtins := builtinsNs } }
inductive BD (V : Val) (ρ : Nat → Addr) (f : Nat) (self : SV) : Obj → Prop | mk (v : Value) (d : Den V ρ self v) : BD V ρ f self (methodObj (.ref f) v)
inductive ItD (l : Addr) (i : Nat) (o : Obj) : Prop | mk (c : o.cls = .type "list_iterator") (d : o.data = .fields #[.ref l, .int i 0])
inductive RgD (x y : Int) : Obj → Prop | mk (b1 : -1000 ≤ x ∧ x ≤ 1000 ∧ -1000 ≤ y ∧ y ≤ 1000) (t u v : Tok) : RgD x y { cls := .type "range", dict := none, data := .fields #[.int x t, .int y u, .int 1 v], slots := #[] }
noncomputable def riterObj (x y : Int) : Obj := { cls := .type "range_iterator", dict := none, data := .fields #[rawInt x, rawInt (if x < y then y - x else 0), rawInt 1], slots := #[] }
inductive TbF (o : Obj) : Prop | mk (ts : Array Value) (d : o.data = .fields ts) (sz : 3 < ts.size) (n : ∀ q t, ts[1]? ≠ some (.str q t))
inductive XD (ρ : Nat → Addr) (C d : Nat) (o : Obj) : Prop | mk (vs : Array Value) (c : o.cls = .ref C) (dd : o.dict = excD ρ d) (e : o.data = .fields vs) (sz : 4 < vs.size) (e2 : vs[2]? = some .none) (e1 : vs[1]? = some .none ∨ ∃ T, vs[1]? = some (.ref T))
inductive ND (V : Val) (ρ : Nat → Addr) (es : List (Nat × SV)) (o : Obj) : Prop | mk (m : PySem.Str → Option Value) (des : Array DictEntry) (ep : Nat) (d : o.data = .dict des ep) (k : StrKeys des) (u : UniqKeys des) (f : ∀ x, nsFind des x = m x)
  (h : ∀ x, LkAt V ρ (lk es x) (m (nm x))) (only : ∀ y, m y ≠ none → y ∈ es.map fun e => nm e.1)
noncomputable def OD (G : Gl) (ρ : Nat → Addr) (so : SObj) (o : Obj) : Prop := match so with
  | .list xs => LD G.V ρ xs o
  | .tup xs => UD G.V ρ xs o
  | .dict es => ED G ρ es o
  | .adict j => AD G j o
  | .alist j => ∃ n, o = listOf (List.toArray (G.V.lst j)) n
  | .apairs _ => ∃ vs n, o = listOf vs n
  | .inst C d => o = instObj C (ρ d)
  | .cell v => CD G.V ρ v o
  | .fn k cs => FnD G ρ k cs o
  | .bm f self => BD G.V ρ f self o
  | .iter l i => ItD (ρ l) i o
  | .rng x y => RgD x y o
  | .riter x y => o = riterObj x y
  | .exc C d => XD ρ C d o
  | .edict es => ND G.V ρ es o
  | .pin => o = G.pin
  | .dead => True
inductive PairAt (h : Heap) (p : Int × PySem.Str) (v : Value) : Prop | mk (b : Addr) (t u : Tok) (m : Nat) (e : v = .ref b) (g : h.get? b = some { cls := .type "tuple", data := .seq #[.int p.1 t, .str p.2 u] m })
inductive TbAt (h : Heap) (cl : Addr → Cl) (i : Nat) (T : Addr) : Prop | mk (o : Obj) (g : h.get? T = some o) (f : TbF o) (c : cl T = .tb i)
noncomputable def codeO (o : Obj) : Value := match o.data with | .func fd => fd.code | _ => .none
noncomputable def seqO (o : Obj) : List Value := match o.data with | .seq vs _ => vs.toList | _ => []
noncomputable def fldO (o : Obj) (i : Nat) : Option Value := match o.data with | .fields vs => vs[i]? | _ => none
noncomputable def OX (G : Gl) (cl : Addr → Cl) (h : Heap) (i : Nat) (so : SObj) (o : Obj) : Prop := so.sel True (fn' := fun k _ => h.CodeRec (codeO o) (G.code k).qual)
  (apairs' := fun j => ∃ ps : List (Int × PySem.Str), ps.Perm (G.V.dic j) ∧ All2 (PairAt h) ps (seqO o)) (exc' := fun _ _ => ∀ T, fldO o 1 = some (.ref T) → TbAt h cl i T)
inductive OI (G : Gl) (cl : Addr → Cl) (ρ : Nat → Addr) (h : Heap) (i : Nat) (a : Addr) (so : SObj) : Prop | mk (o : Obj) (e : h.get? a = some o) (d : OD G ρ so o) (x : OX G cl h i so o)
end Mine
namespace Mine
open PySem PySem.W PyProof.Rows PySem.Calls
section
variable {α β γ : Type} {R S : α → β → Prop}
theorem All2.mono (h : ∀ a b, R a b → S a b) {l : List α} {m : List β} (x : All2 R l m) : All2 S l m := by
  induction x with
  | nil => exact .nil
  | cons a _ ih => exact .cons (h _ _ a) ih
theorem All2.monoM {p : α → Prop} (h : ∀ a b, p a → R a b → S a b) {l : List α} {m : List β} (x : All2 R l m) (hl : ∀ a ∈ l, p a) : All2 S l m := by
  induction x with
  | nil => exact .nil
  | cons a _ ih => exact .cons (h _ _ (hl _ (.head _)) a) (ih fun a ha => hl a (.tail _ ha))
theorem All2.length {l : List α} {m : List β} (x : All2 R l m) : l.length = m.length := by
  induction x with
  | nil => rfl
  | cons _ _ ih => exact congrArg Nat.succ ih
theorem All2.get {l : List α} {m : List β} (x : All2 R l m) : ∀ {i : Nat} {a : α}, l[i]? = some a → ∃ b, m[i]? = some b ∧ R a b := by
  induction x with
  | nil => intro i a h; cases h
  | cons r _ ih => intro i a h; cases i with
    | zero => cases h; exact ⟨_, rfl, r⟩
    | succ i => exact ih h
theorem All2.append {l l' : List α} {m m' : List β} (x : All2 R l m) (y : All2 R l' m') : All2 R (l ++ l') (m ++ m') := by
  induction x with
  | nil => exact y
  | cons a _ ih => exact .cons a ih
theorem All2.set {l : List α} {m : List β} (x : All2 R l m) {a : α} {b : β} (r : R a b) : ∀ i, All2 R (l.set i a) (m.set i b) := by
  induction x with
  | nil => intro i; exact .nil
  | cons p q ih => intro i; cases i with
    | zero => exact .cons r q
    | succ i => exact .cons p (ih i)
end
theorem nil_all {α : Type} {p : α → Prop} : ∀ v ∈ ([] : List α), p v := fun _ h => absurd h List.not_mem_nil
inductive Soft (o : Obj) : Prop | mk (l : ∀ xs n, o ≠ { cls := .type "tuple", data := .seq xs n }) (r : ∀ vs q t, o.data = .fields vs → vs[1]? ≠ some (Value.str q t))
theorem Soft.dict {o : Obj} {es ep} (h : o.data = .dict es ep) : Soft o := ⟨fun xs n e => (by rw [e] at h; cases h), fun vs q t e => (by rw [h] at e; cases e)⟩
theorem Soft.fields {o : Obj} {vs : Array Value} (hd : o.data = .fields vs) (h : ∀ q t, vs[1]? ≠ some (.str q t)) : Soft o := ⟨fun xs n q => (by rw [q] at hd; cases hd), fun ws q t e => (by rw [hd] at e; cases e; exact h q t)⟩
theorem ns_soft {h : Heap} {a : Addr} {m : PySem.Str → Option Value} (x : h.Ns a m) (o : Obj) (e : h.get? a = some o) : Soft o := by
  obtain ⟨_, _, _, e', hd, _⟩ := x
  exact .dict (Option.some.inj (e'.symm.trans e) ▸ hd)
theorem ns_at {h h' : Heap} {a : Addr} {m : PySem.Str → Option Value} (x : h.Ns a m) (k : ∀ o, h.get? a = some o → h'.get? a = some o) : h'.Ns a m := x.at k
theorem ns_unique {h : Heap} {a : Addr} {m m' : PySem.Str → Option Value} (x : h.Ns a m) (y : h.Ns a m') : m = m' := by
  obtain ⟨_, _, _, e, d, _, f⟩ := x
  obtain ⟨_, _, _, e', d', _, f'⟩ := y
  exact funext fun n => (f n).symm.trans ((congrArg (nsFind · n) (PySem.Data.dict.inj ((d.symm.trans (congrArg Obj.data (Option.some.inj (e.symm.trans e')))).trans d')).1).trans (f' n))
theorem ns_none {h : Heap} {a : Addr} {m : PySem.Str → Option Value} (x : h.Ns a m) (e : h.get? a = none) : False := let ⟨_, _, _, e', _⟩ := x; nomatch e'.symm.trans e
theorem Den.ext {V : Val} {ρ ρ' : Nat → Addr} {n : Nat} (h : ∀ i, i < n → ρ' i = ρ i) {v : SV} {x : Value} (hv : v.lt n) (hx : Den V ρ v x) : Den V ρ' v x := by
  cases v with
  | ref i => exact hx.trans (congrArg Value.ref (h i hv).symm)
  | _ => exact hx
theorem SV.lt_le {n m : Nat} (h : n ≤ m) {v : SV} (hv : v.lt n) : v.lt m := by
  cases v with
  | ref i => exact Nat.lt_of_lt_of_le hv h
  | _ => trivial
theorem SObj.lt_le {n m : Nat} (h : n ≤ m) {o : SObj} (hv : o.lt n) : o.lt m := by
  cases o with
  | list xs => exact fun v q => SV.lt_le h (hv v q)
  | tup xs => exact fun v q => SV.lt_le h (hv v q)
  | dict es => exact fun v q => SV.lt_le h (hv v q)
  | edict es => exact fun v q => SV.lt_le h (hv v q)
  | cell v => cases v with | none => trivial | some v => exact SV.lt_le h hv
  | bm f v => exact SV.lt_le h hv
  | fn k cs => exact fun e q => Nat.lt_of_lt_of_le (hv e q) h
  | inst C d => exact Nat.lt_of_lt_of_le hv h
  | iter l i => exact Nat.lt_of_lt_of_le hv h
  | exc C d => exact Nat.lt_of_lt_of_le hv h
  | _ => trivial
theorem lk_mem {α : Type} {es : List (Nat × α)} {a : Nat} {v : α} (h : lk es a = some v) : (a, v) ∈ es := by
  induction es with
  | nil => cases h
  | cons e es ih =>
    cases q : Nat.beq e.1 a with
    | true =>
      have h : cond (Nat.beq e.1 a) (some e.2) (lk es a) = some v := h
      rw [q] at h
      cases h
      rw [← Nat.eq_of_beq_eq_true q]; exact .head _
    | false =>
      have h : cond (Nat.beq e.1 a) (some e.2) (lk es a) = some v := h
      rw [q] at h
      exact .tail _ (ih h)
section
variable {G : Gl} {V : Val} {ρ ρ' : Nat → Addr} {n : Nat} {o : Obj} {so : SObj}
theorem cellsOf_ext (h : ∀ i, i < n → ρ' i = ρ i) {cs : List (Nat × Nat)} (hl : ∀ e ∈ cs, e.2 < n) : cellsOf ρ' cs = cellsOf ρ cs := List.map_congr_left fun p hp => congrArg (Prod.mk (nm p.1)) (h _ (hl p hp))
theorem FnD.ext {k : Nat} {cs : List (Nat × Nat)} (e : cellsOf ρ' cs = cellsOf ρ cs) (x : FnD G ρ k cs o) : FnD G ρ' k cs o := by
  cases x with | mk c ct doc => exact e ▸ FnD.mk c ct doc
theorem OD.ext (h : ∀ i, i < n → ρ' i = ρ i) (hl : so.lt n) (x : OD G ρ so o) : OD G ρ' so o := by
  cases so with
  | list xs => cases x with | mk vs m r => exact .mk vs m (r.monoM (fun _ _ p q => q.ext h p) hl)
  | tup xs => cases x with | mk vs m r => exact .mk vs m (r.monoM (fun _ _ p q => q.ext h p) hl)
  | dict es => cases x with | mk kvs d r => exact .mk kvs d (r.monoM (fun _ _ p q => ⟨q.1, q.2.ext h p⟩) hl)
  | inst C d => exact x.trans (congrArg (instObj C) (h d hl).symm)
  | cell v => cases x with | mk y d r => cases v with
    | none => exact .mk y d trivial
    | some v => exact .mk y d (let ⟨z, e, q⟩ := r; ⟨z, e, q.ext h hl⟩)
  | fn k cs => exact FnD.ext (cellsOf_ext h hl) x
  | bm f v => cases x with | mk y d => exact .mk y (d.ext h hl)
  | iter l i => cases x with | mk c d => exact .mk c (by rw [h l hl]; exact d)
  | exc C d =>
    have e : excD ρ' d = excD ρ d := by cases d with | zero => rfl | succ d => exact congrArg some (h _ hl)
    cases x with | mk vs c dd e1 sz e2 e3 => exact .mk vs c (dd.trans e.symm) e1 sz e2 e3
  | edict es => cases x with
    | mk m des ep d k u f g w =>
      refine .mk m des ep d k u f (fun z => ?_) w
      have q := g z
      cases hz : lk es z with
      | none => rw [hz] at q; exact q
      | some v => rw [hz] at q; exact let ⟨y, h1, h2⟩ := q; ⟨y, h1, h2.ext h (hl _ (lk_mem hz))⟩
  | _ => exact x
theorem codeRec_same {h h' : Heap} {Ch : Addr → Prop} {c : Value} {q : PySem.Str} (hk : ∀ b o, h.get? b = some o → ¬ Ch b → h'.get? b = some o) (hd : ∀ b o, Ch b → h.get? b = some o → Soft o) (x : h.CodeRec c q) : h'.CodeRec c q := by
  obtain ⟨c', o, vs, t, hc, e', hd', hv⟩ := x
  exact ⟨c', o, vs, t, hc, hk _ _ e' (fun z => (hd _ _ z e').2 _ _ _ hd' hv), hd', hv⟩
theorem OX.same {h h' : Heap} {cl cl' : Addr → Cl} {i : Nat} {Ch : Addr → Prop} (hk : ∀ b o, h.get? b = some o → ¬ Ch b → h'.get? b = some o) (hd : ∀ b o, Ch b → h.get? b = some o → Soft o) (ht : ∀ T, TbAt h cl i T → TbAt h' cl' i T) (x : OX G cl h i so o) : OX G cl' h' i so o := by
  cases so with
  | fn k cs => exact codeRec_same hk hd x
  | apairs j => exact let ⟨ps, p, r⟩ := x; ⟨ps, p, r.mono fun _ _ z => by cases z with | mk b t u m e g => exact .mk b t u m e (hk _ _ g fun z => (hd _ _ z g).1 _ _ rfl)⟩
  | exc C d => exact fun T y => ht T (x T y)
  | _ => exact x
theorem OI.mv {h h' : Heap} {cl cl' : Addr → Cl} {i : Nat} {a a' : Addr} {Ch : Addr → Prop} (hk : ∀ b o, h.get? b = some o → ¬ Ch b → h'.get? b = some o) (hd : ∀ b o, Ch b → h.get? b = some o → Soft o) (ht : ∀ T, TbAt h cl i T → TbAt h' cl' i T)
    (ha : ¬ Ch a) (ea : a' = a) (hρ : ∀ i, i < n → ρ' i = ρ i) (hl : so.lt n) (x : OI G cl ρ h i a so) : OI G cl' ρ' h' i a' so := by
  subst ea
  cases x with | mk o e d y => exact .mk o (hk _ _ e ha) (d.ext hρ hl) (y.same hk hd ht)
end
inductive TabOK (h : Heap) (t : Tab) : Prop | mk (ps : Array Value) (e : h.get? t.P = some (tabObj ps)) (r : TriplesOk ps.toList)
  (q : ∀ q ∈ t.at_, codeAmong q.1 ps.toList = none ∨ ∃ c, codeAmong q.1 ps.toList = some (.ref c) ∧ h.CodeRec (.ref c) q.2)
theorem TabOK.same {h h' : Heap} {t : Tab} {Ch : Addr → Prop} (hk : ∀ b o, h.get? b = some o → ¬ Ch b → h'.get? b = some o) (hd : ∀ b o, Ch b → h.get? b = some o → Soft o) (hne : ¬ Ch t.P) (x : TabOK h t) : TabOK h' t := by
  cases x with | mk ps e r q => exact .mk ps (hk _ _ e hne) r fun p hp => (q p hp).imp id fun ⟨c, e, r⟩ => ⟨c, e, codeRec_same hk hd r⟩
noncomputable def ival (V : Val) (v : SV) : Option Int := match v with | .int i => some i | .sint j => some (V.int j) | _ => none
noncomputable def sval (V : Val) (v : SV) : Option PySem.Str := match v with | .str n => some (nm n) | .sstr j => some (V.str j) | _ => none
noncomputable def dPut (l : List (Int × PySem.Str)) (k : Int) (t : PySem.Str) : List (Int × PySem.Str) := match l with
  | [] => [(k, t)]
  | p :: r => if p.1 = k then (k, t) :: r else p :: dPut r k t
noncomputable def dGet (l : List (Int × PySem.Str)) (k : Int) : Option PySem.Str := (l.find? fun p => p.1 = k).map (·.2)
noncomputable def dApp : List (Int × PySem.Str) → List (Option PySem.Str) → Option (List (Option PySem.Str))
  | [], xs => some xs
  | p :: r, xs => if 0 ≤ p.1 ∧ p.1 < xs.length then dApp r (xs.set p.1.toNat (some p.2)) else none
noncomputable def dicOf (V : Val) : Option Nat → List (Int × PySem.Str) | none => [] | some d => V.dic d
inductive RIop (V : Val) (o : Nat) (a b r : SV) : Prop | mk (x y z : Int) (ha : ival V a = some x) (hb : ival V b = some y) (hr : ival V r = some z) (e : iop o x y = some z) (n : 3 ≤ o → y ≠ 0) (l : -1000 < y) (u : y < 1000)
inductive RIcmp (V : Val) (o : Nat) (a b : SV) (r : Bool) : Prop | mk (x y : Int) (ha : ival V a = some x) (hb : ival V b = some y) (e : icmp o x y = some r)
inductive RItos (V : Val) (a r : SV) : Prop | mk (x : Int) (ha : ival V a = some x) (hr : sval V r = some (Str.ofString (toString x))) (l : x.natAbs.log2 < 1920)
inductive RCat (V : Val) (a b r : SV) : Prop | mk (x y : PySem.Str) (ha : sval V a = some x) (hb : sval V b = some y) (hr : sval V r = some (x ++ y)) (l : x.length + y.length ≤ 1000)
inductive RDput (V : Val) (d : Option Nat) (k v : SV) (d' : Nat) : Prop | mk (x : Int) (t : PySem.Str) (hk : ival V k = some x) (hv : sval V v = some t) (e : V.dic d' = dPut (dicOf V d) x t) (l : (V.dic d').length ≤ 60)
inductive RDget (V : Val) (d : Nat) (k v r : SV) : Prop | mk (x : Int) (hk : ival V k = some x) (e : match dGet (V.dic d) x with | some t => sval V r = some t | none => ∃ t, sval V v = some t ∧ sval V r = some t)
inductive RLget (V : Val) (ρ : Nat → Addr) (l : Nat) (k r : SV) : Prop | mk (x : Nat) (y : Value) (hk : ival V k = some (x : Int)) (lx : x < 1000) (e : (V.lst l)[x]? = some y) (d : Den V ρ r y)
inductive RDapp (V : Val) (d : Nat) (xs ys : List SV) : Prop | mk (hx : ∀ x ∈ xs, ∃ t, sval V x = some t) (hy : ∀ y ∈ ys, ∃ t, sval V y = some t) (e : ∀ ps : List (Int × PySem.Str), ps.Perm (V.dic d) → dApp ps (xs.map (sval V)) = some (ys.map (sval V)))
noncomputable def RowOK (V : Val) (ρ : Nat → Addr) (r : Row) : Prop := match r with
  | .iop o a b r => RIop V o a b r
  | .icmp o a b r => RIcmp V o a b r
  | .itos a r => RItos V a r
  | .cat a b r => RCat V a b r
  | .dput d k v d' => RDput V d k v d'
  | .dget d k v r => RDget V d k v r
  | .dlen d r => ival V r = some ((V.dic d).length : Int)
  | .lget l k r => RLget V ρ l k r
  | .llen l r => ival V r = some ((V.lst l).length : Int)
  | .dapp d xs ys => RDapp V d xs ys
noncomputable def Row.lt (n : Nat) (r : Row) : Prop := r.sel True (dget' := fun _ _ v r => An (v.lt n) (r.lt n)) (lget' := fun _ _ r => r.lt n) (dapp' := fun _ _ ys => ∀ v ∈ ys, v.lt n)
theorem Row.lt_le {n m : Nat} (h : n ≤ m) {r : Row} (hr : r.lt n) : r.lt m := by
  cases r with
  | dget _ _ v r => exact ⟨SV.lt_le h hr.1, SV.lt_le h hr.2⟩
  | lget _ _ r => exact SV.lt_le h hr
  | dapp _ _ ys => exact fun v q => SV.lt_le h (hr v q)
  | _ => trivial
theorem RowOK.ext {V : Val} {ρ ρ' : Nat → Addr} {n : Nat} (h : ∀ i, i < n → ρ' i = ρ i) {r : Row} (hl : r.lt n) (x : RowOK V ρ r) : RowOK V ρ' r := by
  cases r with
  | lget l k r => cases x with | mk x y h1 h2 h3 h4 => exact .mk x y h1 h2 h3 (h4.ext h hl)
  | _ => exact x
inductive SS.Le (σ σ' : SS) : Prop | mk (len : σ.objs.length ≤ σ'.objs.length) (exc : ∀ (i C d : Nat), σ.objs[i]? = some (SObj.exc C d) → ∃ d', σ'.objs[i]? = some (SObj.exc C d'))
theorem SS.Le.refl (σ : SS) : σ.Le σ := ⟨Nat.le_refl _, fun _ _ d h => ⟨d, h⟩⟩
theorem SS.Le.trans {σ σ₁ σ₂ : SS} (x : σ.Le σ₁) (y : σ₁.Le σ₂) : σ.Le σ₂ := ⟨Nat.le_trans x.1 y.1, fun i C d h => let ⟨d', h'⟩ := x.2 i C d h; y.2 i C d' h'⟩
theorem SS.len_new {σ : SS} {so : SObj} : (σ.new so).objs.length = σ.objs.length + 1 := List.length_append
theorem SS.len_set {σ : SS} {i : Nat} {so : SObj} : (σ.set i so).objs.length = σ.objs.length := List.length_set
theorem SS.at_lt {σ : SS} {i : Nat} {so : SObj} (h : σ.objs[i]? = some so) : i < σ.objs.length := (List.getElem?_eq_some_iff.mp h).1
theorem SS.new_lt {σ : SS} {so : SObj} {i : Nat} (h : i < σ.objs.length) : (σ.new so).objs[i]? = σ.objs[i]? := List.getElem?_append_left h
theorem SS.new_at {σ : SS} {so : SObj} : (σ.new so).objs[σ.objs.length]? = some so := List.getElem?_concat_length
theorem SS.set_at {σ : SS} {i : Nat} {so : SObj} (h : i < σ.objs.length) : (σ.set i so).objs[i]? = some so := List.getElem?_set_self h
theorem SS.set_ne {σ : SS} {i j : Nat} {so : SObj} (h : i ≠ j) : (σ.set i so).objs[j]? = σ.objs[j]? := List.getElem?_set_ne h
theorem SS.Le.new {σ : SS} {so : SObj} : σ.Le (σ.new so) := ⟨Nat.le_of_lt (Nat.lt_of_lt_of_eq (Nat.lt_succ_self _) SS.len_new.symm), fun _ _ d h => ⟨d, (SS.new_lt (SS.at_lt h)).trans h⟩⟩
theorem SS.Le.set {σ : SS} {i : Nat} {so : SObj} (h : ∀ C d, σ.objs[i]? ≠ some (.exc C d)) : σ.Le (σ.set i so) :=
  ⟨Nat.le_of_eq SS.len_set.symm, fun _ C d hj => ⟨d, (SS.set_ne fun q => h C d ((congrArg (fun z => σ.objs[z]?) q).trans hj)).trans hj⟩⟩
theorem SS.Le.setExc {σ : SS} {i C d d' : Nat} (h : σ.objs[i]? = some (.exc C d')) : σ.Le (σ.set i (.exc C d)) := ⟨Nat.le_of_eq SS.len_set.symm, fun j C' d' hj => by
  by_cases q : i = j
  · cases q; cases Option.some.inj (h.symm.trans hj)
    exact ⟨d, SS.set_at (SS.at_lt h)⟩
  · exact ⟨d', (SS.set_ne q).trans hj⟩⟩
end Mine
namespace Mine
open PySem PySem.W PyProof.Rows PySem.Calls
structure Rq where
  k : Nat
  spec : CodeSpec
  c : Addr
  p : Pos
inductive Met (G : Gl) (r : Rq) : Prop | mk (e : G.code r.k = r.spec) (t : Tab) (h : G.tabOf r.c = some t) (m : (r.p, r.spec.qual) ∈ t.at_)
inductive Fo | ff | tt | an (a b : Fo) | wh (b : Bool) (a : Fo) | rq (r : Rq)
noncomputable def Fo.den (G : Gl) : Fo → Prop
  | .ff => False
  | .tt => True
  | .an a b => An (a.den G) (b.den G)
  | .wh b a => An (b = true) (a.den G)
  | .rq r => Met G r
noncomputable def Fo.run : Fo → Option (List Rq)
  | .ff => none
  | .tt => some []
  | .an a b => a.run.bind fun l => b.run.bind fun m => some (l ++ m)
  | .wh b a => cond b a.run none
  | .rq r => some [r]
theorem Fo.run_den {G : Gl} {f : Fo} : ∀ {l : List Rq}, f.run = some l → (∀ r ∈ l, Met G r) → f.den G := by
  induction f with
  | ff => intro l h; cases h
  | tt => intro l _ _; trivial
  | an a b ha hb =>
    intro l h M
    have ⟨x, h1, h⟩ := Option.bind_eq_some_iff.mp h
    have ⟨y, h2, h⟩ := Option.bind_eq_some_iff.mp h
    cases h
    exact ⟨ha h1 fun r q => M r (List.mem_append_left _ q), hb h2 fun r q => M r (List.mem_append_right _ q)⟩
  | wh b a ha => intro l h M; cases b with
    | true => exact ⟨rfl, ha h M⟩
    | false => cases h
  | rq r => intro l h M; cases h; exact M r (.head _)
noncomputable def bn {α : Type} (o : Option α) (f : α → Fo) : Fo := match o with | none => .ff | some a => f a
theorem bnE {G : Gl} {α : Type} {o : Option α} {f : α → Fo} {C : Prop} (h : (bn o f).den G) (k : ∀ a, o = some a → (f a).den G → C) : C := match o, h with | some a, h => k a rfl h
noncomputable def isNm (n : Nat) (s : PySem.Str) : Bool := decide (nm n = s)
theorem isNm_of {n : Nat} {s : PySem.Str} (h : isNm n s = true) : nm n = s := of_decide_eq_true h
noncomputable def isKd (sc : Scope) (s : PySem.Str) (k : NameKind) : Bool := decide (sc.names.lookup s = some k)
theorem isKd_of {sc : Scope} {s : PySem.Str} {k : NameKind} (h : isKd sc s k = true) : sc.names.lookup s = some k := of_decide_eq_true h
noncomputable def frOK (sc : Scope) (fs : List Nat) : Bool := decide ((sc.names.filter fun y => y.2 == .free).map (·.1) = (fs.map nm).reverse)
noncomputable def inScope (sc outer : Scope) : Scope := { sc with names := sc.names.map fun p => if p.2 == .free && outer.names.lookup p.1 == some .cell then (p.1, .cell) else p }
noncomputable def opOf : Nat → CmpOp
  | 0 => .Is | 1 => .IsNot | 2 => .Eq | 3 => .NotEq | 4 => .In | 5 => .NotIn | 6 => .Lt | 7 => .Gt | 8 => .GtE | _ => .LtE
noncomputable def binOf : Nat → Operator
  | 0 => .Add | 1 => .Sub | 2 => .Mult | 3 => .FloorDiv | _ => .Mod
noncomputable def compOK (csc : Scope) (x : Nat) (fs : List Nat) : Bool := csc.names.all (fun y => decide (y.2 ≠ .cell)) && (decide (csc.kind = .function) && (csc.names.all (fun y => decide (y.2 = .local → csc.names.lookup y.1 = some .local)) && (isKd csc (nm x) .local && frOK csc fs)))
structure CK where
  sc : Scope
  qual : PySem.Str
  code : Option Addr
  cmp : Bool
noncomputable def CK.into (c : CK) (csc : Scope) : CK := ⟨inScope csc c.sc, c.qual, c.code, true⟩
structure EV where
  t : Nat
  i : Int
  s : PySem.Str
  y : Expr
  z : Expr
  w : Expr
  es : List Expr
  eo : List (Option Expr)
  ks : List Keyword
  gs : List Comprehension
  ops : List CmpOp
  op : Operator
  ar : Arguments
  sc : Scope
  p : Pos
  m : Nat
noncomputable def p0 : Pos := ⟨0, 0, 0, 0⟩
noncomputable def x0 : Expr := .List [] p0
noncomputable def ar0 : Arguments := ⟨[], [], none, [], [], none, []⟩
noncomputable def sc0 : Scope := ⟨.module, [], false, false, []⟩
noncomputable def ev0 : EV := ⟨0, 0, "", x0, x0, x0, [], [], [], [], [], .Add, ar0, sc0, p0, 0⟩
noncomputable def vwC (p : Pos) (m : Nat) (c : Const) : EV := match c with
  | .none => { ev0 with t := 1, p := p, m := m }
  | .bool b => { ev0 with t := cond b 2 3, p := p, m := m }
  | .int i => { ev0 with t := 4, i := i, p := p, m := m }
  | .str s => { ev0 with t := 5, s := s, p := p, m := m }
  | .float _ => ev0 | .complex .. => ev0 | .bytes _ => ev0 | .ellipsis => ev0
noncomputable def vwB (o : PySem.BoolOp) : Nat := match o with | .And => 13 | .Or => 14
noncomputable def vwU (o : UnaryOp) : Nat := match o with | .Not => 15 | .Invert => 0 | .UAdd => 0 | .USub => 0
noncomputable def vw (x : Expr) : EV := match x with
  | .Constant c m p => vwC p m c
  | .Name s p => { ev0 with t := 6, s := s, p := p }
  | .Attribute y s p => { ev0 with t := 7, y := y, s := s, p := p }
  | .Subscript y z p => { ev0 with t := 8, y := y, z := z, p := p }
  | .Call y es ks p => { ev0 with t := 9, y := y, es := es, ks := ks, p := p }
  | .Lambda ar y sc p => { ev0 with t := 10, ar := ar, y := y, sc := sc, p := p }
  | .ListComp y gs sc p => { ev0 with t := 11, y := y, gs := gs, sc := sc, p := p }
  | .Compare y ops es p => { ev0 with t := 12, y := y, ops := ops, es := es, p := p }
  | .BoolOp o es p => { ev0 with t := vwB o, es := es, p := p }
  | .UnaryOp o y p => { ev0 with t := vwU o, y := y, p := p }
  | .BinOp y op z p => { ev0 with t := 16, y := y, op := op, z := z, p := p }
  | .Dict eo es p => { ev0 with t := 17, eo := eo, es := es, p := p }
  | .List es p => { ev0 with t := 18, es := es, p := p }
  | .Tuple es m p => { ev0 with t := 19, es := es, m := m, p := p }
  | .IfExp y z w p => { ev0 with t := 20, y := y, z := z, w := w, p := p }
  | .Slice l u s p => { ev0 with t := cond (l.isNone && (u.isNone && s.isNone)) 21 0, p := p }
  | _ => ev0
noncomputable def unT : List (EV → Expr) := [fun _ => x0, fun v => .Constant .none v.m v.p, fun v => .Constant (.bool true) v.m v.p, fun v => .Constant (.bool false) v.m v.p, fun v => .Constant (.int v.i) v.m v.p, fun v => .Constant (.str v.s) v.m v.p, fun v => .Name v.s v.p, fun v => .Attribute v.y v.s v.p, fun v => .Subscript v.y v.z v.p, fun v => .Call v.y v.es v.ks v.p,
  fun v => .Lambda v.ar v.y v.sc v.p, fun v => .ListComp v.y v.gs v.sc v.p, fun v => .Compare v.y v.ops v.es v.p, fun v => .BoolOp .And v.es v.p, fun v => .BoolOp .Or v.es v.p, fun v => .UnaryOp .Not v.y v.p, fun v => .BinOp v.y v.op v.z v.p, fun v => .Dict v.eo v.es v.p, fun v => .List v.es v.p, fun v => .Tuple v.es v.m v.p, fun v => .IfExp v.y v.z v.w v.p, fun v => .Slice none none none v.p]
noncomputable def unvw (t : Nat) (v : EV) : Expr := unT.getD t (fun _ => x0) v
theorem vw_ok (x : Expr) : unvw (vw x).t (vw x) = x ∨ (vw x).t = 0 := by
  cases x with
  | Constant c m p => cases c with
    | bool b => cases b <;> exact .inl rfl
    | none => exact .inl rfl
    | int => exact .inl rfl
    | str => exact .inl rfl
    | _ => exact .inr rfl
  | BoolOp o => cases o <;> exact .inl rfl
  | UnaryOp o => cases o <;> first | exact .inl rfl | exact .inr rfl
  | Slice l u s => cases l with
    | some => exact .inr rfl
    | none => cases u with
      | some => exact .inr rfl
      | none => cases s with
        | some => exact .inr rfl
        | none => exact .inl rfl
  | _ => first | exact .inl rfl | exact .inr rfl
noncomputable def tg (v : EV) (t : Nat) (a : Fo) : Fo := .wh (Nat.beq v.t t) a
theorem tagE {x : Expr} {t : Nat} (h : Nat.beq (vw x).t (t + 1) = true) : unvw (t + 1) (vw x) = x := by
  have e := Nat.eq_of_beq_eq_true h
  rcases vw_ok x with q | q
  · rw [e] at q; exact q
  · rw [e] at q; cases q
theorem tgE {G : Gl} {x : Expr} {t : Nat} {a : Fo} {C : Expr → Prop} (h : (tg (vw x) (t + 1) a).den G) (k : a.den G → C (unvw (t + 1) (vw x))) : C x := tagE h.1 ▸ k h.2
noncomputable def one {α : Type} (l : List α) : Option α := match l with | [] => none | a :: r => match r with | [] => some a | _ :: _ => none
theorem one_of {α : Type} {l : List α} {a : α} (h : one l = some a) : l = [a] := match l, h with | [_], h => by cases h; rfl
noncomputable def un {α : Type} (l : List α) : Option (α × List α) := match l with | [] => none | a :: r => some (a, r)
theorem un_of {α : Type} {l : List α} {a : α × List α} (h : un l = some a) : l = a.1 :: a.2 := match l, h with | _ :: _, h => by cases h; rfl
theorem emp_of {α : Type} {l : List α} (h : l.isEmpty = true) : l = [] := match l, h with | [], _ => rfl
theorem non_of {α : Type} {o : Option α} (h : o.isNone = true) : o = none := match o, h with | none, _ => rfl
noncomputable def plB (x : Expr) : Bool := Nat.ble 1 (vw x).t && (Nat.ble (vw x).t 20 && !(Nat.beq (vw x).t 9 && (Nat.beq (vw (vw x).y).t 6 && decide ((vw (vw x).y).s = "super"))))
noncomputable def plT (x : Expr) : Bool := !(Nat.beq (vw x).t 20 || Nat.ble 12 (vw x).t && Nat.ble (vw x).t 15)
noncomputable def ieT (e : IE) : Bool := e.sel true (not' := fun _ => false) (bop' := fun _ _ => false) (cmp' := fun _ _ _ => false) (ite' := fun _ _ _ => false)
section
variable (P : PT) (rE : CK → IE → Expr → Fo)
noncomputable def ckEs (c : CK) (l : List IE) : List Expr → Fo := l.foldr (fun e r m => bn (un m) fun q => .an (rE c e q.1) (r q.2)) fun m => .wh m.isEmpty .tt
noncomputable def ckEo (c : CK) (l : List IE) : List (Option Expr) → Fo := l.foldr (fun e r m => bn (un m) fun q => bn q.1 fun x => .an (rE c e x) (r q.2)) fun m => .wh m.isEmpty .tt
noncomputable def ckEk (c : CK) (l : List (Nat × IE)) : List Keyword → Fo := l.foldr (fun e r m => bn (un m) fun q => bn q.1.arg fun s => .wh (isNm e.1 s) (.an (rE c e.2 q.1.value) (r q.2))) fun m => .wh m.isEmpty .tt
noncomputable def ckNm (c : CK) (x : Nat) (k : NameKind) (v : EV) : Fo := tg v 6 (.wh (isNm x v.s) (.wh (isKd c.sc v.s k) .tt))
noncomputable def ckE1 (c : CK) (e : IE) (v : EV) : Fo := match e with
  | .bad => .ff
  | .none => tg v 1 .tt
  | .tru => tg v 2 .tt
  | .fls => tg v 3 .tt
  | .int i => tg v 4 (.wh (decide (i = v.i)) .tt)
  | .str s => tg v 5 (.wh (isNm s v.s) .tt)
  | .loc x => ckNm c x .local v
  | .cel x => ckNm c x .cell v
  | .fre x => ckNm c x .free v
  | .glob x => ckNm c x .globalImplicit v
  | .attr o a => tg v 7 (.wh (Nat.blt a nAttr) (.wh (isNm a v.s) (rE c o v.y)))
  | .sub o i => tg v 8 (.an (rE c o v.y) (rE c i v.z))
  | .call f args => tg v 9 (.wh v.ks.isEmpty (tg (vw v.y) 6 (.an (rE c f v.y) (ckEs rE c args v.es))))
  | .srt d => tg v 9 (.wh v.ks.isEmpty (.an (ckNm c n_sorted .globalImplicit (vw v.y)) (bn (one v.es) fun z => tg (vw z) 9 (.wh ((vw z).es.isEmpty && (vw z).ks.isEmpty) (tg (vw (vw z).y) 7 (.wh (isNm n_items (vw (vw z).y).s) (.wh (decide ((vw (vw z).y).p.endLine = (vw z).p.line)) (rE c d (vw (vw z).y).y))))))))
  | .mcall o a args kws => tg v 9 (tg (vw v.y) 7 (.wh (Nat.blt a nAttr) (.wh (isNm a (vw v.y).s) (.wh (decide ((vw v.y).p.endLine = v.p.line)) (.wh (Nat.blt (v.es.length + v.ks.length) 29) (.an (rE c o (vw v.y).y) (.an (ckEs rE c args v.es) (ckEk rE c kws v.ks))))))))
  | .lam k => tg v 10 (bn c.code fun a => bn P.codes[k]? fun C => .wh (v.ar.defaults.isEmpty && v.ar.kw_defaults.isEmpty) (.wh (frOK v.sc C.frees) (.rq ⟨k, ⟨"<lambda>", c.qual ++ "<lambda>", v.ar, .expr v.y, v.sc⟩, a, v.p⟩)))
  | .comp elt x it d fs => tg v 11 (bn (one v.gs) fun g => .wh (!c.cmp && decide (c.sc.kind = .function)) (tg (vw g.target) 6 (.wh (isNm x (vw g.target).s) (.wh (compOK v.sc x fs) (.wh (decide (g.is_async = 0)) (.an (rE c it g.iter) (.an (rE (c.into v.sc) elt v.y) (match d with
    | none => .wh g.ifs.isEmpty .tt
    | some d => bn (one g.ifs) fun w => rE (c.into v.sc) d w))))))))
  | .cmp o l r => tg v 12 (bn (one v.ops) fun op => bn (one v.es) fun z => .wh (decide (opOf o = op)) (.an (rE c l v.y) (rE c r z)))
  | .bop b l => tg v (cond b 13 14) (ckEs rE c l v.es)
  | .not e => tg v 15 (rE c e v.y)
  | .bin o l r => tg v 16 (.wh (decide (binOf o = v.op)) (.an (rE c l v.y) (rE c r v.z)))
  | .dict ks vs => tg v 17 (.an (ckEo rE c ks v.eo) (ckEs rE c vs v.es))
  | .list l => tg v 18 (ckEs rE c l v.es)
  | .tup l => tg v 19 (ckEs rE c l v.es)
  | .ite t a b => tg v 20 (.an (rE c t v.y) (.an (rE c a v.z) (rE c b v.w)))
noncomputable def ckE0 (c : CK) (e : IE) (x : Expr) : Fo := .wh (plB x) (.wh (plT x == ieT e) (ckE1 P rE c e (vw x)))
end
noncomputable def ckE (P : PT) (n : Nat) : CK → IE → Expr → Fo := Nat.repeat (ckE0 P) n fun _ _ _ => .ff
structure SW where
  t : Nat
  s : PySem.Str
  s2 : PySem.Str
  y : Expr
  z : Expr
  oy : Option Expr
  oz : Option Expr
  a : List Stmt
  b : List Stmt
  f : List Stmt
  es : List Expr
  hs : List ExceptHandler
  ar : Arguments
  tp : List TypeParam
  sc : Scope
  ts : Option Scope
  p : Pos
noncomputable def sw0 : SW := ⟨0, "", "", x0, x0, none, none, [], [], [], [], [], ar0, [], sc0, none, p0⟩
noncomputable def sw (x : Stmt) : SW := match x with
  | .Expr y p => { sw0 with t := 1, y := y, p := p }
  | .Assign es y p => { sw0 with t := 2, es := es, y := y, p := p }
  | .Return oy p => { sw0 with t := 3, oy := oy, p := p }
  | .Pass p => { sw0 with t := 4, p := p }
  | .If y a b p => { sw0 with t := 5, y := y, a := a, b := b, p := p }
  | .For y z a b p => { sw0 with t := 6, y := y, z := z, a := a, b := b, p := p }
  | .Try a hs b f p => { sw0 with t := 7, a := a, hs := hs, b := b, f := f, p := p }
  | .Raise oy oz p => { sw0 with t := 8, oy := oy, oz := oz, p := p }
  | .Delete es p => { sw0 with t := 9, es := es, p := p }
  | .FunctionDef s ar a es oy tp sc ts s2 p => { sw0 with t := 10, s := s, ar := ar, a := a, es := es, oy := oy, tp := tp, sc := sc, ts := ts, s2 := s2, p := p }
  | _ => sw0
noncomputable def unS : List (SW → Stmt) := [fun v => .Pass v.p, fun v => .Expr v.y v.p, fun v => .Assign v.es v.y v.p, fun v => .Return v.oy v.p, fun v => .Pass v.p, fun v => .If v.y v.a v.b v.p, fun v => .For v.y v.z v.a v.b v.p, fun v => .Try v.a v.hs v.b v.f v.p, fun v => .Raise v.oy v.oz v.p, fun v => .Delete v.es v.p,
  fun v => .FunctionDef v.s v.ar v.a v.es v.oy v.tp v.sc v.ts v.s2 v.p]
noncomputable def unsw (t : Nat) (v : SW) : Stmt := unS.getD t (fun v => .Pass v.p) v
theorem sw_ok (x : Stmt) : unsw (sw x).t (sw x) = x ∨ (sw x).t = 0 := by
  cases x <;> first | exact .inl rfl | exact .inr rfl
theorem swE {x : Stmt} {t : Nat} (h : Nat.beq (sw x).t (t + 1) = true) : unsw (t + 1) (sw x) = x := by
  have e := Nat.eq_of_beq_eq_true h
  rcases sw_ok x with q | q
  · rw [e] at q; exact q
  · rw [e] at q; cases q
noncomputable def sg (v : SW) (t : Nat) (a : Fo) : Fo := .wh (Nat.beq v.t t) a
theorem sgE {G : Gl} {x : Stmt} {t : Nat} {a : Fo} {C : Stmt → Prop} (h : (sg (sw x) (t + 1) a).den G) (k : a.den G → C (unsw (t + 1) (sw x))) : C x := swE h.1 ▸ k h.2
noncomputable def env0 (sc : Scope) : Env := { scope := sc, locals := 0, globals := 0, cells := [], qual := "", func := none, code := .none, frame := none, builtins := 0 }
noncomputable def pureOf {α : Type} (t : Sem α) : Option α := match t with | .pure a => some a | _ => none
theorem pureOf_of {α : Type} {t : Sem α} {a : α} (h : pureOf t = some a) : t = pure a := by
  cases t with
  | pure b => cases h; rfl
  | _ => cases h
noncomputable def isFalse (t : Sem Bool) : Bool := match pureOf t with | none => false | some b => !b
theorem isFalse_of {t : Sem Bool} (h : isFalse t = true) : t = pure false := by
  unfold isFalse at h
  cases e : pureOf t with
  | none => rw [e] at h; cases h
  | some b => rw [e] at h; cases b with | false => exact pureOf_of e | true => cases h
noncomputable def noAnn (a : Arguments) : Bool := a.posonlyargs.isEmpty && (a.vararg.isNone && (a.kwonlyargs.isEmpty && (a.kwarg.isNone && a.args.all fun x => x.annotation.isNone)))
noncomputable def notComp (x : Expr) : Bool := !Nat.beq (vw x).t 11
noncomputable def nmd (x : Expr) (n : Nat) : Fo := tg (vw x) 6 (.wh (isNm n (vw x).s) .tt)
noncomputable def s1d (x : Expr) (z y : Nat) : Fo := tg (vw x) 8 (.an (nmd (vw x).y z) (tg (vw (vw x).z) 5 (.wh (isNm y (vw (vw x).z).s) .tt)))
noncomputable def s2d (x : Expr) (z y k : Nat) : Fo := tg (vw x) 8 (.an (s1d (vw x).y z y) (nmd (vw x).z k))
noncomputable def hTy (h : ExceptHandler) : Option Expr := match h with | .ExceptHandler t _ _ _ => t
noncomputable def hNm (h : ExceptHandler) : Option PySem.Str := match h with | .ExceptHandler _ n _ _ => n
noncomputable def hBd (h : ExceptHandler) : List Stmt := match h with | .ExceptHandler _ _ b _ => b
noncomputable def kd (c : CK) (n : Nat) (k : NameKind) (a : Fo) : Fo := .wh (isKd c.sc (nm n) k) a
section
variable (P : PT) (rE : CK → IE → Expr → Fo) (rS : CK → IS → Stmt → Fo)
noncomputable def ckT1 (c : CK) (t : TG) (v : EV) : Fo := match t with
  | .tn x b => ckNm c x (cond b .cell .local) v
  | .ta o a => tg v 7 (.wh (Nat.blt a nAttr) (.wh (isNm a v.s) (rE c o v.y)))
  | .ts o i => tg v 8 (.an (rE c o v.y) (rE c i v.z))
  | .tt _ => .ff
noncomputable def ckT1s (c : CK) (l : List TG) : List Expr → Fo := l.foldr (fun t r m => bn (un m) fun q => .an (ckT1 rE c t (vw q.1)) (r q.2)) fun m => .wh m.isEmpty .tt
noncomputable def ckT (c : CK) (t : TG) (x : Expr) : Fo := match t with | .tt l => tg (vw x) 19 (ckT1s rE c l (vw x).es) | t => ckT1 rE c t (vw x)
noncomputable def ckTs (c : CK) (l : List TG) : List Expr → Fo := l.foldr (fun t r m => bn (un m) fun q => .an (ckT rE c t q.1) (r q.2)) fun m => .wh m.isEmpty .tt
noncomputable def ckSs (c : CK) (l : List IS) : List Stmt → Fo := l.foldr (fun s r m => bn (un m) fun q => .an (rS c s q.1) (r q.2)) fun m => .wh m.isEmpty .tt
noncomputable def ckFeed (c : CK) (it : IE) (z y : Nat) (v : SW) : Fo := .wh v.b.isEmpty (tg (vw v.y) 19 (bn (un (vw v.y).es) fun q => .an (nmd q.1 n_k) (bn (one q.2) fun t => .an (nmd t n_text) (bn (one v.a) fun st => sg (sw st) 2 (bn (one (sw st).es) fun l => .an (s2d l z y n_k) (.an (nmd (sw st).y n_text) (kd c z .free (kd c n_k .local (kd c n_text .local (rE c it v.z))))))))))
noncomputable def ckCopy (c : CK) (z y u w : Nat) (v : SW) : Fo := .wh v.b.isEmpty (.an (nmd v.y n_k) (.an (s1d v.z u w) (bn (one v.a) fun st => sg (sw st) 2 (bn (one (sw st).es) fun l => .an (s2d l z y n_k) (.an (s2d (sw st).y u w n_k) (kd c z .local (kd c u .local (kd c n_k .local (.wh (!Nat.beq n_k z && !Nat.beq n_k u) .tt)))))))))
noncomputable def ckS1 (c : CK) (s : IS) (v : SW) : Fo := match s with
  | .bad => .tt
  | .expr e => sg v 1 (.wh (notComp v.y) (rE c e v.y))
  | .asgn ts e => sg v 2 (.wh (isFalse (swapsWithSole v.es v.y v.p.line (env0 c.sc))) (bn (pureOf (swappedStores v.es v.y (env0 c.sc))) fun o => .wh o.isNone (.an (rE c e v.y) (ckTs rE c ts v.es))))
  | .swap ps l => sg v 2 (.wh (isFalse (swapsWithSole v.es v.y v.p.line (env0 c.sc))) (bn (pureOf (swappedStores v.es v.y (env0 c.sc))) fun o => bn o fun ns => .wh (decide (ns = ps.map nm)) (.wh (ps.all fun q => isKd c.sc (nm q) .local) (bn (one v.es) fun x => tg (vw x) 19 (tg (vw v.y) 19 (ckEs rE c l (vw v.y).es))))))
  | .ret e => sg v 3 (match e with | none => .wh v.oy.isNone .tt | some e => bn v.oy fun y => rE c e y)
  | .pass => sg v 4 .tt
  | .ife t a b => sg v 5 (.an (rE c t v.y) (.an (ckSs rS c a v.a) (ckSs rS c b v.b)))
  | .for_ t it b => sg v 6 (.wh v.b.isEmpty (tg (vw v.y) 6 (.an (ckT rE c t v.y) (.an (rE c it v.z) (ckSs rS c b v.a)))))
  | .tryN b o => sg v 7 (.wh v.f.isEmpty (bn (un v.hs) fun _ => .an (ckSs rS c b v.a) (ckSs rS c o v.b)))
  | .tryB b h o => sg v 7 (.wh v.f.isEmpty (bn (one v.hs) fun x => .wh ((hTy x).isNone && (hNm x).isNone) (bn (un (hBd x)) fun _ => .an (ckSs rS c b v.a) (.an (ckSs rS c h (hBd x)) (ckSs rS c o v.b)))))
  | .tryA g z b h o => sg v 7 (.wh v.f.isEmpty (bn (one v.hs) fun x => bn (hTy x) fun t => .an (nmd t g) (bn (hNm x) fun s => .wh (isNm z s) (kd c g .globalImplicit (kd c z .local (bn (un (hBd x)) fun _ => .an (ckSs rS c b v.a) (.an (ckSs rS c h (hBd x)) (ckSs rS c o v.b))))))))
  | .tryF b f => sg v 7 (.wh (v.hs.isEmpty && v.b.isEmpty) (bn (un v.f) fun _ => .an (ckSs rS c b v.a) (ckSs rS c f v.f)))
  | .raise e => sg v 8 (.wh v.oz.isNone (bn v.oy fun y => rE c e y))
  | .reraise => sg v 8 (.wh (v.oz.isNone && v.oy.isNone) .tt)
  | .delsl e => sg v 9 (bn (one v.es) fun x => tg (vw x) 8 (tg (vw (vw x).z) 21 (rE c e (vw x).y)))
  | .defn z k => sg v 10 (bn c.code fun a => bn P.codes[k]? fun C => .wh (isNm z v.s) (.wh (isNm z v.s2) (.wh (v.ar.defaults.isEmpty && v.ar.kw_defaults.isEmpty) (.wh (noAnn v.ar) (kd c z .local (.wh (v.es.isEmpty && (v.oy.isNone && (v.tp.isEmpty && v.ts.isNone))) (.wh (frOK v.sc C.frees) (.rq ⟨k, ⟨v.s, c.qual ++ v.s, v.ar, .stmts v.a, v.sc⟩, a, v.p⟩))))))))
  | .feed it z y => sg v 6 (ckFeed rE c it z y v)
  | .copy z y u w => sg v 6 (ckCopy c z y u w v)
end
noncomputable def ckS (P : PT) (n : Nat) : CK → IS → Stmt → Fo := Nat.repeat (fun r c s x => ckS1 P (ckE P 40) r c s (sw x)) n fun _ _ _ => .ff
end Mine
namespace Mine
open PySem PySem.W PyProof.Rows PySem.Calls
noncomputable def SV.still (v : SV) : Prop := v.sel True (ref' := fun _ => False)
theorem SV.still_lt {v : SV} (h : v.still) (n : Nat) : v.lt n := by
  cases v with
  | ref => exact h.elim
  | _ => trivial
inductive FnAt (K : Frag) (C a g : Nat) : Prop | mk (f : findIn K (.ref C) (nm a) = some (some (.ref g))) (i : isFn K (.ref g) = true) (s : specialIn K (.ref g) "__get__" = some (some (.builtin "function.__get__"))) (t : takesIn K (.ref g) = some false) (ty : typeIn K (.ref g) = some (.type "function"))
inductive ValAt (G : Gl) (C a : Nat) (v : SV) : Prop | mk (s : v.still) (y : Value) (d : ∀ ρ, Den G.V ρ v y) (f : findIn G.K (.ref C) (nm a) = some (some y)) (g : specialIn G.K y "__get__" = some none) (h : handedIn y = true) (t : typeIn G.K (.ref C) = some (.type "type")) (r : readsIn G.K C (.type "type") = true) (c : findCls G.K (.ref C) (.type "type") (nm a) = some (.val y))
noncomputable def AtOK (G : Gl) (C : Nat) (l : List (Nat × CA)) (a : Nat) : Prop := match lk l a with
  | none => findIn G.K (.ref C) (nm a) = some none
  | some c => match c with
    | .fn g => FnAt G.K C a g
    | .val v => ValAt G C a v
    | .obj => True
theorem AtOK.fn {G : Gl} {C a g : Nat} {l : List (Nat × CA)} (A : AtOK G C l a) (h : lk l a = some (.fn g)) : FnAt G.K C a g := by unfold AtOK at A; rw [h] at A; exact A
theorem AtOK.val {G : Gl} {C a : Nat} {v : SV} {l : List (Nat × CA)} (A : AtOK G C l a) (h : lk l a = some (.val v)) : ValAt G C a v := by unfold AtOK at A; rw [h] at A; exact A
theorem AtOK.no {G : Gl} {C a : Nat} {l : List (Nat × CA)} (A : AtOK G C l a) (h : lk l a = none) : findIn G.K (.ref C) (nm a) = some none := by unfold AtOK at A; rw [h] at A; exact A
inductive ClsOK (G : Gl) (C : Nat) (l : List (Nat × CA)) : Prop | mk (ga : findIn G.K (.ref C) "__getattribute__" = some (some (.builtin "object.__getattribute__"))) (gx : findIn G.K (.ref C) "__getattr__" = some none) (hd : hasDictIn G.K C = true)
  (sa : findIn G.K (.ref C) "__setattr__" = some (some (.builtin "object.__setattr__"))) (po : plainOver G.K C = true) (kp : keepIn G.K (.ref C) = true) (mk : makesIn G.K C = true)
  (ob : lk l n___init__ = some .obj → findIn G.K (.ref C) "__init__" = some (some (.builtin "object.__init__"))) (nm' : mroIn G.K C (.type "module") = some false) (nb : findIn G.K (.ref C) "__bool__" = some none)
  (tk : ∀ a, a < nAttr → takerIn G.K C (nm a) = some none) (at_ : ∀ a, a < nAttr → AtOK G C l a)
inductive ExcCls (h : Heap) : Prop | mk (nm' q : PySem.Str) (N : Addr) (bs : List Value) (sn : List PySem.Str) (sub : List Value) (ab : Bool) (col : Option Bool) (dd : Option Addr) (k0 k1 k2 k3 k5 : Option Value) (mN : PySem.Str → Option Value)
  (e : h.get? 849 = some (excClassObj nm' q 849 N bs [.type "Exception", .type "BaseException", .type "object"] true sn sub ab col dd k0 k1 k2 k3 k5 "Exception.__new__")) (n : h.Ns N mN) (i : mN "__init__" = some (.ref 846))
  (no : ∀ x ∈ (["__setattr__", "__getattribute__", "__getattr__", nm n_who, nm n_what] : List PySem.Str), mN x = none) (f : ∃ oI, h.get? 846 = some oI ∧ oI.cls = .type "function")
inductive GlobAt (G : Gl) (x : Nat) (v : SV) : Prop | mk (s : v.still) (y : Value) (d : ∀ ρ, Den G.V ρ v y) (e : G.mg (nm x) = some y ∨ (G.mg (nm x) = none ∧ G.mb (nm x) = some y))
inductive PK (G : Gl) (P : PT) : Prop | mk (glob : ∀ x v, lk P.globs x = some v → GlobAt G x v) (cls : ∀ C l, lk P.classes C = some l → ClsOK G C l) (copied : ∀ a, a < nAttr → copiedNames.contains (nm a) = false)
  (exc : ∀ h, G.K.In h → ExcCls h) (str : ∀ j, PyData.strOk (G.V.str j) = true) (lst : ∀ d, (G.V.lst d).length ≤ 1000) (hasD : ∃ cd, clsIn G.K 556 = some cd ∧ cd.name = "Transaction" ∧ mroIn G.K 556 (.type "module") = some false) (kpX : keepIn G.K (.ref 849) = true)
structure FD where
  oc : Value
  od : Option Addr
  osl : Array (Option Value)
  name : PySem.Str
  qual : PySem.Str
  ns : List Arg
  dd : List Expr
  body : List Stmt
  scope : Scope
  dV : Value
  kV : Value
  doc : Value
  pm : Value
  cdv : Value
  ct : Value
  an : Option Addr
  items : List Value
noncomputable def FD.fd (D : FD) : FuncData := fnX D.name D.qual ⟨[], D.ns, none, [], [], none, D.dd⟩ D.body D.scope [] D.dV D.kV D.doc D.pm D.an D.cdv D.ct
noncomputable def codeA (v : Value) : Option Addr := match v with | .ref a => some a | _ => none
inductive Sig (sc : Scope) (ns : List Arg) (ps : List Nat) : Prop | mk (pars : ns.map (·.arg) = ps.map nm) (nd : ps.Nodup) (co : sc.isCoroutine = false) (gen : sc.isGenerator = false) (kind : sc.kind = .function)
inductive FunOK (G : Gl) (P : PT) (F : IFun) (D : FD) : Prop | mk (ob : G.K.lookup F.addr = some ⟨D.oc, D.od, .func D.fd, D.osl⟩) (code : codeIn G.K D.cdv D.qual = true) (sig : Sig D.scope D.ns F.params) (cnd : F.cells.Nodup)
  (df : (D.dV = .none ∧ D.items = []) ∨ ∃ T o n, D.dV = .ref T ∧ G.K.lookup T = some o ∧ o.data = .seq D.items.toArray n) (df1 : F.dflts.map (·.1) = F.params.drop (F.params.length - F.dflts.length)) (df2 : F.dflts.length ≤ F.params.length)
  (df3 : ∀ ρ, All2 (fun (e : Nat × SV) y => An (Den G.V ρ e.2 y) e.2.still) F.dflts D.items)
  (cells : ∀ c ∈ F.cells, D.scope.names.lookup (nm c) = some .cell ∧ nm c ∈ (cellsFrom 0 D.scope.names []).map (·.1)) (locs : ∀ x ∈ F.params, x ∉ F.cells → D.scope.names.lookup (nm x) = some .local) (cnd2 : ((cellsFrom 0 D.scope.names []).map (·.1)).Nodup)
  (body : (ckSs (ckS P 40) ⟨D.scope, D.qual ++ ".<locals>.", codeA D.cdv, false⟩ F.body D.body).den G)
inductive CodeOK (G : Gl) (P : PT) (k : Nat) (c : ICode) : Prop | mk (ns : List Arg) (e : (G.code k).params = ⟨[], ns, none, [], [], none, []⟩) (sig : Sig (G.code k).scope ns c.params)
  (locs : ∀ x ∈ c.params, (G.code k).scope.names.lookup (nm x) = some .local) (nocell : ∀ y ∈ (G.code k).scope.names, y.2 ≠ .cell)
  (body : match c.lam with
    | some e => ∃ x, (G.code k).body = .expr x ∧ (ckE P 40 ⟨(G.code k).scope, (G.code k).qual ++ ".<locals>.", none, false⟩ e x).den G
    | none => ∃ b, (G.code k).body = .stmts b ∧ (ckSs (ckS P 40) ⟨(G.code k).scope, (G.code k).qual ++ ".<locals>.", none, false⟩ c.body b).den G)
inductive Hyp (G : Gl) (P : PT) : Prop | mk (pk : PK G P) (fn : ∀ a F, findFun a P.funs = some F → F.addr = a ∧ ∃ D, FunOK G P F D) (code : ∀ (k : Nat) c, P.codes[k]? = some c → CodeOK G P k c)
abbrev Gl.withPin (G : Gl) (o : Obj) : Gl := { G with pin := o }
inductive TF (G : Gl) (tabs : List Tab) (base : Heap) : Prop | mk (apart : tabs.Pairwise fun a b => a.P ≠ b.P) (tab : ∀ c t, G.tabOf c = some t → t ∈ tabs ∧ CodeHd base c t.P)
  (one : ∀ t ∈ tabs, ∀ q ∈ t.at_, ∀ q' ∈ t.at_, q.1.line = q'.1.line → q.1.col = q'.1.col → q.2 = q'.2)
  (bm : ∃ bm o, G.mg "__builtins__" = some (.ref bm) ∧ bm ≠ builtinsNs ∧ bm ≠ mainGlobals ∧ base.get? bm = some o ∧ o.cls = .type "module" ∧ o.dict = some builtinsNs ∧ o.data = .plain)
  (pm : (G.mg "__name__").getD .none = G.pm)
structure Cx where
  G : Gl
  P : PT
  tabs : List Tab
  hd : Option Nat
  n : Nat
  A : Around
  env : Env
  L : Addr
  base : Heap
  fenv : Env
  outer : List Env
  lm : Option (PySem.Str → Option Value)
abbrev Cx.M (X : Cx) : Model := model X.G.prog X.G.w
noncomputable def Cx.lc (X : Cx) : Cl := match X.lm with | none => .fr | some _ => .lo
inductive Fs (X : Cx) : Prop | mk (hy : ∀ o, Hyp (X.G.withPin o) X.P) (kind : X.env.scope.kind = .function) (globals : X.env.globals = mainGlobals) (builtins : X.env.builtins = builtinsNs) (K : X.G.K.In X.base) (Tg : X.base.Ns mainGlobals X.G.mg) (Tb : X.base.Ns builtinsNs X.G.mb)
  (lim : X.base.NoLimit) (sys : ∃ o, X.base.get? sysModules = some o) (stack : X.A.frames = some (X.fenv :: X.outer)) (ff : X.fenv.frame = some X.L) (fk : X.fenv.scope.kind = .function) (ef : X.env.frame = some X.L) (T : TF X.G X.tabs X.base)
  (dp : X.A.depth + X.n ≤ 950) (un : X.A.units + 8 * X.n + 64 < cLine) (loc : X.lm = none → X.env.locals = X.L) (hdn : X.hd = none → X.A.handled = none)
structure Wd where
  k : Heap
  ρ : Nat → Addr
  s : Shared
  cl : Addr → Cl
  m : PySem.Str → Option Value
  me : PySem.Str → Option Value
abbrev Wd.h (w : Wd) : Heap := w.s.heap
inductive Ob (X : Cx) (w : Wd) (n i : Nat) (so : SObj) : Prop | mk (oi : OI X.G w.cl w.ρ w.s.heap i (w.ρ i) so) (c : w.cl (w.ρ i) = .ob i) (lt : so.lt n)
inductive NmAt (V : Val) (n : Nat) (w : Wd) (x : Nat) (v : SV) : Prop | mk (lt : v.lt n) (y : Value) (e : w.me (nm x) = some y) (d : Den V w.ρ v y)
inductive Tbd (h : Heap) (a : Addr) : Prop | mk (o : Obj) (e : h.get? a = some o) (T : Addr) (f : fldO o 1 = some (.ref T))
inductive HdAt (X : Cx) (σ : SS) (w : Wd) (e : Nat) : Prop | mk (is : ∃ C d, σ.objs[e]? = some (.exc C d)) (h : X.A.handled = some (.ref (w.ρ e))) (t : Tbd w.s.heap (w.ρ e))
inductive At (X : Cx) (fr : SFr) (σ : SS) (w : Wd) : Prop | mk
  (ob : ∀ i so, σ.objs[i]? = some so → Ob X w σ.objs.length i so)
  (fs : Fs X)
  (kp : ∀ b o, w.k.get? b = some o → An (w.s.heap.get? b = some o) (w.cl b = .kept))
  (nL : w.s.heap.Ns X.L w.m) (nl : w.s.heap.Ns X.env.locals w.me)
  (cL : w.cl X.L = .fr) (cl : w.cl X.env.locals = X.lc)
  (nms : ∀ x v, lk fr.loc x = some v → NmAt X.G.V σ.objs.length w x v)
  (ce : ∀ x i, lk fr.cel x = some i → An (X.env.cells.lookup (nm x) = some (w.ρ i)) (i < σ.objs.length))
  (tb : ∀ t ∈ X.tabs, An (TabOK w.s.heap t) (w.cl t.P = .tab))
  (gens : w.s.gens = #[]) (os : w.s.os = X.G.os)
  (rows : ∀ r ∈ σ.rows, An (RowOK X.G.V w.ρ r) (r.lt σ.objs.length))
  (hd : ∀ e, X.hd = some e → HdAt X σ w e)
  (lm : ∀ m0, X.lm = some m0 → w.m = m0)
  (ab : w.k.objs.size ≤ X.L)
  (st : X.base.StaysIn w.k) (ff : w.k.FunFrames X.base X.outer)
  (od : ∀ a ∈ X.outer.filterMap (·.frame), ∃ o es n, w.k.get? a = some o ∧ o.data = .dict es n)
  (ex : ∀ b, w.cl b ≠ .non → ∃ o, w.s.heap.get? b = some o)
inductive Ex (O : List Env) (n : Nat) (w w' : Wd) : Prop | mk (ρ : ∀ i, i < n → w'.ρ i = w.ρ i) (sl : ∀ b o, w.k.get? b = some o → ∃ sl, w'.k.get? b = some { o with slots := sl }) (no : ∀ b, w.k.get? b = none → w'.k.get? b = none)
  (same : ∀ b o, w.k.get? b = some o → b ∉ O.filterMap (·.frame) → w'.k.get? b = some o) (size : w'.k.objs.size = w.k.objs.size)
theorem Ex.refl (O : List Env) (n : Nat) (w : Wd) : Ex O n w w := ⟨fun _ _ => rfl, fun _ o e => ⟨o.slots, e⟩, fun _ e => e, fun _ _ e _ => e, rfl⟩
theorem Ex.of {O : List Env} {n : Nat} {w w' : Wd} (k : w'.k = w.k) (h : ∀ i, i < n → w'.ρ i = w.ρ i) : Ex O n w w' := ⟨h, fun b o e => ⟨o.slots, k ▸ e⟩, fun b e => k ▸ e, fun b o e _ => k ▸ e, congrArg (·.objs.size) k⟩
theorem Ex.trans {O : List Env} {n m : Nat} {w w₁ w₂ : Wd} (x : Ex O n w w₁) (le : n ≤ m) (y : Ex O m w₁ w₂) : Ex O n w w₂ :=
  ⟨fun i h => (y.1 i (Nat.lt_of_lt_of_le h le)).trans (x.1 i h), fun b o e => let ⟨_, e₁⟩ := x.2 b o e; let ⟨sl, e₂⟩ := y.2 b _ e₁; ⟨sl, e₂⟩, fun b e => y.3 b (x.3 b e), fun b o e n => y.4 b o (x.4 b o e n) n, y.5.trans x.5⟩
end Mine
namespace Mine
open PySem PySem.W PyProof.Rows PySem.Calls
section
variable {X : Cx} {I : In} {c : CK} {N : Nat} {fr fr' : SFr} {σ σ' σ₁ σ₂ σ₃ : SS} {w w' : Wd} {V : Val} {ρ : Nat → Addr} {G : Gl} {P : PT}
section
noncomputable def intIs (i : Int) (y : Value) : Bool := match y with | .int j _ => decide (j = i) | _ => false
theorem intIs_of {i : Int} {y : Value} (h : intIs i y = true) : ∃ t, y = .int i t := by
  cases y with
  | int j t => exact ⟨t, congrArg (Value.int · t) (of_decide_eq_true h)⟩
  | _ => cases h
theorem isStr_of {s : PySem.Str} {y : Value} (h : y.isStr s = true) : ∃ t, y = .str s t := by
  cases y with
  | str z t => exact ⟨t, congrArg (Value.str · t) (of_decide_eq_true h)⟩
  | _ => cases h
noncomputable def denB (v : SV) (y : Value) : Bool := v.sel false (none' := decide (y = .none)) (bool' := fun b => decide (y = .bool b)) (int' := fun i => intIs i y) (str' := fun n => y.isStr (nm n)) (cstr' := fun n u => decide (y = .str (nm n) u)) (top' := fun a => decide (y = .ref a)) (blt' := fun n => decide (y = bltV n))
theorem denB_of {v : SV} {y : Value} (h : denB v y = true) : An v.still (∀ (V : Val) ρ, Den V ρ v y) := by
  cases v with
  | int i => exact ⟨trivial, fun _ _ => intIs_of h⟩
  | str i => exact ⟨trivial, fun _ _ => isStr_of h⟩
  | none => have h := of_decide_eq_true h; exact ⟨trivial, fun _ _ => h⟩
  | bool b => have h := of_decide_eq_true h; exact ⟨trivial, fun _ _ => h⟩
  | cstr n t => have h := of_decide_eq_true h; exact ⟨trivial, fun _ _ => h⟩
  | top a => have h := of_decide_eq_true h; exact ⟨trivial, fun _ _ => h⟩
  | blt n => have h := of_decide_eq_true h; exact ⟨trivial, fun _ _ => h⟩
  | _ => cases h
noncomputable def denBs (l : List (Nat × SV)) : List Value → Bool := l.foldr (fun e r m => match m with | [] => false | y :: m => denB e.2 y && r m) fun m => m.isEmpty
theorem denBs_of {l : List (Nat × SV)} : ∀ {m : List Value}, denBs l m = true → ∀ ρ, All2 (fun (e : Nat × SV) y => An (Den V ρ e.2 y) e.2.still) l m := by
  induction l with
  | nil => intro m h ρ; rw [emp_of h]; exact .nil
  | cons e l ih => intro m h ρ; cases m with
    | nil => cases h
    | cons y m =>
      have b := an_bool (a := denB e.2 y) h
      have d := denB_of b.1
      exact .cons ⟨d.2 V ρ, d.1⟩ (ih b.2 ρ)
noncomputable def itemsOf (K : Frag) (dV : Value) : Option (List Value) := match dV with
  | .none => some []
  | .ref T => (K.lookup T).bind fun o => (match o.data with | .seq xs _ => some xs.toList | _ => none)
  | _ => none
noncomputable def DfOf (K : Frag) (dV : Value) (items : List Value) : Prop := (dV = .none ∧ items = []) ∨ ∃ T o n, dV = .ref T ∧ K.lookup T = some o ∧ o.data = .seq items.toArray n
theorem items_ok {K : Frag} {dV : Value} : Ok (itemsOf K dV) (DfOf K dV) := by
  cases dV with
  | none => exact .ret (.inl ⟨rfl, rfl⟩)
  | ref T =>
    exact .bind fun o e => by
      obtain ⟨c, d, x, s⟩ := o
      cases x with
      | seq xs n => exact .ret (.inr ⟨T, _, n, rfl, e, rfl⟩)
      | _ => exact .nil
  | _ => exact .nil
noncomputable def plainFd (f : FuncData) : Bool := f.params.posonlyargs.isEmpty && (f.params.vararg.isNone && (f.params.kwonlyargs.isEmpty && (f.params.kw_defaults.isEmpty && (f.params.kwarg.isNone && (f.closure.isEmpty && (Nat.beq f.globals mainGlobals && Nat.beq f.builtins builtinsNs))))))
noncomputable def fdOf (K : Frag) (o : Obj) : Option FD := match o.data with
  | .func f => (match f.body with
    | .stmts b => (itemsOf K f.defaults).bind fun items => wh (plainFd f) (some ⟨o.cls, o.dict, o.slots, f.name, f.qualname, f.params.args, f.params.defaults, b, f.scope, f.defaults, f.kwdefaults, f.doc, f.pyModule, f.code, f.closureTuple, f.annotations, items⟩)
    | .expr _ => none)
  | _ => none
theorem ar_eq {p1 p2 p4 : List Arg} {p3 p6 : Option Arg} {p5 : List (Option Expr)} {p7 : List Expr} (h1 : p1 = []) (h3 : p3 = none) (h4 : p4 = []) (h5 : p5 = []) (h6 : p6 = none) : (⟨p1, p2, p3, p4, p5, p6, p7⟩ : Arguments) = ⟨[], p2, none, [], [], none, p7⟩ := by
  subst h1 h3 h4 h5 h6; rfl
theorem ar_of {a : Arguments} (h1 : a.posonlyargs = []) (h3 : a.vararg = none) (h4 : a.kwonlyargs = []) (h5 : a.kw_defaults = []) (h6 : a.kwarg = none) : a = ⟨[], a.args, none, [], [], none, a.defaults⟩ := by
  cases a; exact ar_eq h1 h3 h4 h5 h6
theorem fd_eq {f : FuncData} {p : Arguments} {b : List Stmt} (h1 : f.params = p) (h2 : f.body = .stmts b) (h3 : f.globals = mainGlobals) (h4 : f.closure = []) (h5 : f.builtins = builtinsNs) : f = fnX f.name f.qualname p b f.scope [] f.defaults f.kwdefaults f.doc f.pyModule f.annotations f.code f.closureTuple := by
  unfold fnX
  rw [← h1, ← h2, ← h3, ← h4, ← h5]
theorem fdOf_ok {K : Frag} {o : Obj} : Ok (fdOf K o) fun D => An (o = ⟨D.oc, D.od, .func D.fd, D.osl⟩) (DfOf K D.dV D.items) := by
  unfold fdOf
  cases hx : o.data with
  | func f =>
    dsimp only
    cases hb : f.body with
    | stmts b =>
      refine .then items_ok fun items H => .wh fun h => .ret ⟨?_, H⟩
      have h1 := an_bool h
      have h2 := an_bool h1.2
      have h3 := an_bool h2.2
      have h4 := an_bool h3.2
      have h5 := an_bool h4.2
      have h6 := an_bool h5.2
      have h7 := an_bool h6.2
      have e := fd_eq (f := f) (ar_of (emp_of h1.1) (non_of h2.1) (emp_of h3.1) (emp_of h4.1) (non_of h5.1)) hb (Nat.eq_of_beq_eq_true h7.1) (emp_of h6.1) (Nat.eq_of_beq_eq_true h7.2)
      exact congrArg (fun d => (⟨o.cls, o.dict, d, o.slots⟩ : Obj)) (hx.trans (congrArg Data.func e))
    | expr => exact .nil
  | _ => exact .nil
noncomputable def sigB (sc : Scope) (ns : List Arg) (ps : List Nat) : Bool := decide (ns.map (·.arg) = ps.map nm) && (decide ps.Nodup && (!sc.isCoroutine && (!sc.isGenerator && decide (sc.kind = .function))))
theorem nt_of {b : Bool} (h : (!b) = true) : b = false := (Bool.not_eq_true' b).mp h
theorem sigB_of {sc : Scope} {ns : List Arg} {ps : List Nat} (h : sigB sc ns ps = true) : Sig sc ns ps :=
  have h1 := an_bool h
  have h2 := an_bool h1.2
  have h3 := an_bool h2.2
  have h4 := an_bool h3.2
  ⟨of_decide_eq_true h1.1, of_decide_eq_true h2.1, nt_of h3.1, nt_of h4.1, of_decide_eq_true h4.2⟩
noncomputable def cellB (sc : Scope) (c : Nat) : Bool := decide (sc.names.lookup (nm c) = some .cell) && decide (nm c ∈ (cellsFrom 0 sc.names []).map (·.1))
noncomputable def funB (K : Frag) (F : IFun) (D : FD) : Bool := codeIn K D.cdv D.qual && (sigB D.scope D.ns F.params && (decide F.cells.Nodup && (decide (F.dflts.map (·.1) = F.params.drop (F.params.length - F.dflts.length)) && (decide (F.dflts.length ≤ F.params.length) && (denBs F.dflts D.items
  && (F.cells.all (cellB D.scope) && (F.params.all (fun x => decide (x ∉ F.cells → D.scope.names.lookup (nm x) = some .local)) && decide (((cellsFrom 0 D.scope.names []).map (·.1)).Nodup))))))))
noncomputable def ckFun (P : PT) (K : Frag) (F : IFun) : Fo := bn (K.lookup F.addr) fun o => bn (fdOf K o) fun D => .wh (funB K F D) (ckSs (ckS P 40) ⟨D.scope, D.qual ++ ".<locals>.", codeA D.cdv, false⟩ F.body D.body)
theorem fun_of {F : IFun} {D : FD} {o : Obj} (ho : G.K.lookup F.addr = some o) (hD : fdOf G.K o = some D) (h : (Fo.wh (funB G.K F D) (ckSs (ckS P 40) ⟨D.scope, D.qual ++ ".<locals>.", codeA D.cdv, false⟩ F.body D.body)).den G) : FunOK G P F D := by
  have d := fdOf_ok D hD
  have h1 := an_bool h.1
  have h2 := an_bool h1.2
  have h3 := an_bool h2.2
  have h4 := an_bool h3.2
  have h5 := an_bool h4.2
  have h6 := an_bool h5.2
  have h7 := an_bool h6.2
  have h8 := an_bool h7.2
  exact ⟨ho.trans (congrArg some d.1), h1.1, sigB_of h2.1, of_decide_eq_true h3.1, d.2, of_decide_eq_true h4.1, of_decide_eq_true h5.1, denBs_of h6.1,
    fun c hc => have q := an_bool (List.all_eq_true.mp h7.1 c hc); ⟨of_decide_eq_true q.1, of_decide_eq_true q.2⟩, fun x hx => of_decide_eq_true (List.all_eq_true.mp h8.1 x hx), of_decide_eq_true h8.2, h.2⟩
theorem ckFun_of {F : IFun} (h : (ckFun P G.K F).den G) : ∃ D, FunOK G P F D := bnE h fun o ho h => bnE h fun D hD h => ⟨D, fun_of ho hD h⟩
noncomputable def plainAr (a : Arguments) : Bool := a.posonlyargs.isEmpty && (a.vararg.isNone && (a.kwonlyargs.isEmpty && (a.kw_defaults.isEmpty && (a.kwarg.isNone && a.defaults.isEmpty))))
theorem plainAr_of {a : Arguments} (h : plainAr a = true) : a = ⟨[], a.args, none, [], [], none, []⟩ := by
  have h1 := an_bool h
  have h2 := an_bool h1.2
  have h3 := an_bool h2.2
  have h4 := an_bool h3.2
  have h5 := an_bool h4.2
  exact (ar_of (emp_of h1.1) (non_of h2.1) (emp_of h3.1) (emp_of h4.1) (non_of h5.1)).trans (congrArg (fun d => (⟨[], a.args, none, [], [], none, d⟩ : Arguments)) (emp_of h5.2))
noncomputable def codeB (c : ICode) (s : CodeSpec) : Bool := plainAr s.params && (sigB s.scope s.params.args c.params && (c.params.all (fun x => isKd s.scope (nm x) .local) && s.scope.names.all (fun y => decide (y.2 ≠ .cell))))
noncomputable def bodyF (P : PT) (c : ICode) (s : CodeSpec) : Fo := match c.lam, s.body with
  | some e, .expr x => ckE P 40 ⟨s.scope, s.qual ++ ".<locals>.", none, false⟩ e x
  | none, .stmts b => ckSs (ckS P 40) ⟨s.scope, s.qual ++ ".<locals>.", none, false⟩ c.body b
  | _, _ => .ff
noncomputable def ckCode (P : PT) (c : ICode) (s : CodeSpec) : Fo := .wh (codeB c s) (bodyF P c s)
theorem ckCode_of {k : Nat} {c : ICode} (h : (ckCode P c (G.code k)).den G) : CodeOK G P k c := by
  have h1 := an_bool h.1
  have h2 := an_bool h1.2
  have h3 := an_bool h2.2
  refine ⟨_, plainAr_of h1.1, sigB_of h2.1, fun x hx => isKd_of (List.all_eq_true.mp h3.1 x hx), fun y hy => of_decide_eq_true (List.all_eq_true.mp h3.2 y hy), ?_⟩
  have b := h.2
  obtain ⟨ps, fs, lam, body⟩ := c
  generalize G.code k = s at b ⊢
  obtain ⟨n, q, ar, bd, sc⟩ := s
  cases lam with
  | some e => cases bd with | expr x => exact ⟨x, rfl, b⟩ | stmts => exact b.elim
  | none => cases bd with | stmts x => exact ⟨x, rfl, b⟩ | expr => exact b.elim
end
section
variable {K : Frag} {C a g : Nat} {l : List (Nat × CA)}
noncomputable def globV (mg mb : PySem.Str → Option Value) (x : PySem.Str) : Option Value := match mg x with | some y => some y | none => mb x
noncomputable def okG (mg mb : PySem.Str → Option Value) (e : Nat × SV) : Bool := (globV mg mb (nm e.1)).any (denB e.2)
theorem any_of {α : Type} {o : Option α} {p : α → Bool} {B : Prop} (h : o.any p = true) (k : ∀ a, o = some a → p a = true → B) : B := match o, h with | some a, h => k a rfl h
theorem glob_of {x : Nat} {v : SV} (h : okG G.mg G.mb (x, v) = true) : GlobAt G x v := any_of h fun y hy hd => by
  have d := denB_of hd
  refine ⟨d.1, y, fun ρ => d.2 G.V ρ, ?_⟩
  unfold globV at hy
  cases q : G.mg (nm x) with
  | some z => rw [q] at hy; exact .inl hy
  | none => rw [q] at hy; exact .inr ⟨rfl, hy⟩
noncomputable def isFnT (K : Frag) (g : Nat) : Bool := decide (typeIn K (.ref g) = some (.type "function"))
noncomputable def fnB (K : Frag) (C a g : Nat) : Bool := decide (findIn K (.ref C) (nm a) = some (some (.ref g)))
theorem fn_special {n : PySem.Str} (t : typeIn K (.ref g) = some (.type "function")) : specialIn K (.ref g) n = fastLookup "function" n := by unfold specialIn; rw [t]; rfl
theorem fn_gt : fastLookup "function" "__get__" = some (some (.builtin "function.__get__")) := by kernel_rfl
theorem fn_set : fastLookup "function" "__set__" = some none := by kernel_rfl
theorem fn_delete : fastLookup "function" "__delete__" = some none := by kernel_rfl
theorem fn_takes (t : typeIn K (.ref g) = some (.type "function")) : takesIn K (.ref g) = some false := by
  unfold takesIn
  rw [fn_special t, fn_special t, fn_set, fn_delete]; rfl
theorem fnAt_of (t : isFnT K g = true) (h : fnB K C a g = true) : FnAt K C a g :=
  have t := of_decide_eq_true t
  ⟨of_decide_eq_true h, by unfold isFn; rw [t]; decide, (fn_special t).trans fn_gt, fn_takes t, t⟩
noncomputable def clsVal (K : Frag) (x : PySem.Str) (y : Value) : Bool := decide (fastLookup "type" x = some none) && (!Builtin.heldUnderItsOwnName x y && (typeIn K y).isSome)
theorem clsVal_of {x : PySem.Str} {y : Value} (hf : findIn K (.ref C) x = some (some y)) (hg : specialIn K y "__get__" = some none) (hh : handedIn y = true) (h : clsVal K x y = true) : findCls K (.ref C) (.type "type") x = some (.val y) := by
  have h1 := an_bool h
  have h2 := an_bool h1.2
  unfold findCls
  rw [show findIn K (.type "type") x = some none from of_decide_eq_true h1.1]
  show (findIn K (.ref C) x).bind _ = _
  rw [hf]
  show (if Builtin.heldUnderItsOwnName x y = true then none else _) = _
  rw [if_neg (by rw [nt_of h2.1]; exact Bool.false_ne_true)]
  cases e : typeIn K y with
  | none => rw [e] at h2; cases h2.2
  | some t =>
    show (if bareKinds.contains t then some (CFound.val y) else _) = _
    rw [hg, hh]
    exact ite_self _
noncomputable def valB (K : Frag) (C a : Nat) (v : SV) : Bool := (findIn K (.ref C) (nm a)).any fun o => o.any fun y => denB v y && (decide (specialIn K y "__get__" = some none) && (handedIn y && (decide (typeIn K (.ref C) = some (.type "type")) && (readsIn K C (.type "type") && (clsVal K (nm a) y && decide (takesIn K y = some false))))))
noncomputable def okA (K : Frag) (C : Nat) (l : List (Nat × CA)) (a : Nat) : Bool := match lk l a with
  | none => decide (findIn K (.ref C) (nm a) = some none)
  | some c => c.sel (decide (takerIn K C (nm a) = some none)) (fn' := fun g => fnB K C a g) (val' := fun v => valB K C a v)
theorem okA_at (hf : ∀ g, lk l a = some (.fn g) → isFnT G.K g = true) (h : okA G.K C l a = true) : An (takerIn G.K C (nm a) = some none) (AtOK G C l a) := by
  unfold okA at h
  unfold AtOK takerIn
  cases q : lk l a with
  | none =>
    rw [q] at h
    have e := of_decide_eq_true h
    exact ⟨by rw [e]; rfl, e⟩
  | some c =>
    rw [q] at h
    cases c with
    | fn g =>
      have F := fnAt_of (hf g q) h
      exact ⟨by rw [F.1]; exact (congrArg (Option.map fun b => if b = true then some (Value.ref g) else none) F.4).trans rfl, F⟩
    | val v =>
      exact any_of h fun o ho h => any_of h fun y hy h => by
        cases hy
        have d := denB_of (an_bool h).1
        have h1 := an_bool (an_bool h).2
        have h2 := an_bool h1.2
        have h3 := an_bool h2.2
        have h4 := an_bool h3.2
        have h5 := an_bool h4.2
        exact ⟨by rw [ho]; exact (congrArg (Option.map fun b => if b = true then some y else none) (of_decide_eq_true h5.2)).trans rfl, d.1, y, fun ρ => d.2 G.V ρ, ho, of_decide_eq_true h1.1, h2.1, of_decide_eq_true h3.1, h4.1, clsVal_of ho (of_decide_eq_true h1.1) h2.1 h5.1⟩
    | obj => exact ⟨of_decide_eq_true h, trivial⟩
noncomputable def okC0 (K : Frag) (C : Nat) (l : List (Nat × CA)) : Bool := decide (findIn K (.ref C) "__getattribute__" = some (some (.builtin "object.__getattribute__"))) && (decide (findIn K (.ref C) "__getattr__" = some none) && (hasDictIn K C
  && (decide (findIn K (.ref C) "__setattr__" = some (some (.builtin "object.__setattr__"))) && (plainOver K C && (keepIn K (.ref C) && (makesIn K C && ((match lk l n___init__ with | some c => c.sel true (obj' := decide (findIn K (.ref C) "__init__" = some (some (.builtin "object.__init__")))) | none => true)
  && (decide (mroIn K C (.type "module") = some false) && decide (findIn K (.ref C) "__bool__" = some none)))))))))
noncomputable def okC (K : Frag) (e : Nat × List (Nat × CA)) : Bool := okC0 K e.1 e.2 && (List.range nAttr).all (okA K e.1 e.2)
noncomputable def fnsB (K : Frag) (e : Nat × List (Nat × CA)) : Bool := e.2.all fun x => x.2.sel true (fn' := fun g => isFnT K g)
theorem fns_of {e : Nat × List (Nat × CA)} (h : fnsB K e = true) (q : lk e.2 a = some (.fn g)) : isFnT K g = true := List.all_eq_true.mp h (a, .fn g) (lk_mem q)
theorem cls_of (hf : fnsB G.K (C, l) = true) (h : okC G.K (C, l) = true) : ClsOK G C l := by
  have h1 := an_bool h
  have a1 := an_bool h1.1
  have a2 := an_bool a1.2
  have a3 := an_bool a2.2
  have a4 := an_bool a3.2
  have a5 := an_bool a4.2
  have a6 := an_bool a5.2
  have a7 := an_bool a6.2
  have a8 := an_bool a7.2
  have a9 := an_bool a8.2
  have at_ : ∀ a, a < nAttr → An (takerIn G.K C (nm a) = some none) (AtOK G C l a) := fun a ha => okA_at (fun g q => fns_of hf q) (List.all_eq_true.mp h1.2 a (List.mem_range.mpr ha))
  exact ⟨of_decide_eq_true a1.1, of_decide_eq_true a2.1, a3.1, of_decide_eq_true a4.1, a5.1, a6.1, a7.1, fun q => by have b := a8.1; rw [q] at b; exact of_decide_eq_true b, of_decide_eq_true a9.1, of_decide_eq_true a9.2, fun a ha => (at_ a ha).1, fun a ha => (at_ a ha).2⟩
noncomputable def excSl (l : List (Option Value)) : Bool := decide (l = [l.getD 0 none, l.getD 1 none, l.getD 2 none, l.getD 3 none, some (.builtin "Exception.__new__"), l.getD 5 none])
noncomputable def excNo : List PySem.Str := ["__setattr__", "__getattribute__", "__getattr__", nm n_who, nm n_what]
noncomputable def excCd (K : Frag) (cd : ClassData) : Bool := decide (cd.mro = [.ref 849, .type "Exception", .type "BaseException", .type "object"]) && (cd.hasDict && (!cd.hasDel && (nsOkIn K cd.ns && (decide (nsIn K cd.ns "__init__" = some (some (.ref 846))) && excNo.all (fun x => decide (nsIn K cd.ns x = some none))))))
noncomputable def clsD (o : Obj) : Option ClassData := match o.data with | .cls cd => some cd | _ => none
noncomputable def excB (K : Frag) : Bool := (K.lookup 849).any fun o => (decide (o.cls = .type "type") && excSl o.slots.toList) && (clsD o).any (excCd K)
theorem ns_has {h : Heap} {N : Addr} {m : PySem.Str → Option Value} {x : PySem.Str} {v : Value} (X : K.In h) (G : h.Ns N m) (e : nsIn K N x = some (some v)) : m x = some v := by
  obtain ⟨o, es, ep, ho, hd, _, hf⟩ := G
  unfold nsIn at e
  cases q : K.lookup N with
  | none => rw [q] at e; cases e
  | some ob =>
    rw [q] at e
    cases ho.symm.trans (X _ _ q)
    obtain ⟨c, d, x', s⟩ := o
    cases hd
    have e : (match es.toList.find? (·.key.isStr x) with | some e => some (some e.val) | none => if es.toList.any (·.refKey) then none else some none) = some (some v) := e
    refine (hf x).symm.trans ?_
    unfold nsFind findBy
    rw [← Array.find?_toList]
    cases he : es.toList.find? (·.key.isStr x) with
    | some en => rw [he] at e; exact Option.some.inj e
    | none =>
      rw [he] at e
      have e : (if es.toList.any (·.refKey) then none else some none) = some (some v) := e
      by_cases z : es.toList.any (·.refKey) = true
      · rw [if_pos z] at e; cases e
      · rw [if_neg z] at e; cases e
theorem obj_eq {o : Obj} {c : Value} {d : Option Addr} {x : Data} {l : Array (Option Value)} (h1 : o.cls = c) (h2 : o.dict = d) (h3 : o.data = x) (h4 : o.slots = l) : o = ⟨c, d, x, l⟩ := by
  subst h1 h2 h3 h4; rfl
theorem cd_eq {cd : ClassData} {m : List Value} {a b : Bool} (h1 : cd.mro = m) (h2 : cd.hasDict = a) (h3 : cd.hasDel = b) : cd = ⟨cd.name, cd.bases, m, cd.ns, cd.qualname, a, cd.slotNames, cd.subclasses, cd.abstract, cd.collection, b⟩ := by
  subst h1 h2 h3; rfl
theorem clsD_of {o : Obj} {cd : ClassData} (h : clsD o = some cd) : o.data = .cls cd := by
  unfold clsD at h
  cases e : o.data with
  | cls c => rw [e] at h; exact congrArg Data.cls (Option.some.inj h)
  | _ => rw [e] at h; cases h
theorem exc_of (h : excB K = true) (f : isFnT K 846 = true) : ∀ h, K.In h → ExcCls h := any_of h fun o ho h => any_of (an_bool h).2 fun cd hcd hc => fun hp X => by
  have h1 := an_bool (an_bool h).1
  have c1 := an_bool hc
  have c2 := an_bool c1.2
  have c3 := an_bool c2.2
  have c4 := an_bool c3.2
  have c5 := an_bool c4.2
  have N : hp.Ns cd.ns (hp.nsMap cd.ns) := .of_isNs (isNs_of_in X c4.1)
  have no : ∀ x ∈ excNo, hp.nsMap cd.ns x = none := fun x hx => ns_none_of X N (of_decide_eq_true (List.all_eq_true.mp c5.2 x hx))
  have i := ns_has X N (of_decide_eq_true c5.1)
  have e := obj_eq (o := o) (of_decide_eq_true h1.1) rfl ((clsD_of hcd).trans (congrArg Data.cls (cd_eq (of_decide_eq_true c1.1) c2.1 (nt_of c3.1)))) (Array.toList_inj.mp (of_decide_eq_true h1.2) : o.slots = #[_, _, _, _, _, _])
  exact .mk cd.name cd.qualname cd.ns cd.bases cd.slotNames cd.subclasses cd.abstract cd.collection o.dict _ _ _ _ _ _ (X _ _ (ho.trans (congrArg some e))) N i no
    (let ⟨o6, h6, e6⟩ := Option.map_eq_some_iff.mp (show (K.lookup 846).map (·.cls) = some (.type "function") from of_decide_eq_true f); ⟨o6, X _ _ h6, e6⟩)
noncomputable def txB (K : Frag) : Bool := ((clsIn K 556).any fun cd => decide (cd.name = ("Transaction" : PySem.Str))) && (decide (mroIn K 556 (.type "module") = some false) && keepIn K (.ref 849))
theorem pk_of (h1 : P.globs.all (okG G.mg G.mb) = true) (h2 : P.classes.all (fnsB G.K) = true) (h3 : P.classes.all (okC G.K) = true) (h4 : (List.range nAttr).all (fun a => !copiedNames.contains (nm a)) = true) (h5 : excB G.K = true) (h6 : isFnT G.K 846 = true) (h7 : txB G.K = true)
    (str : ∀ j, PyData.strOk (G.V.str j) = true) (lst : ∀ d, (G.V.lst d).length ≤ 1000) : PK G P :=
  have t := an_bool h7
  have t2 := an_bool t.2
  ⟨fun x v e => glob_of (List.all_eq_true.mp h1 _ (lk_mem e)), fun C l e => cls_of (List.all_eq_true.mp h2 _ (lk_mem e)) (List.all_eq_true.mp h3 _ (lk_mem e)), fun a ha => nt_of (List.all_eq_true.mp h4 a (List.mem_range.mpr ha)), exc_of h5 h6, str, lst,
    any_of t.1 fun cd e q => ⟨cd, e, of_decide_eq_true q, of_decide_eq_true t2.1⟩, t2.2⟩
end
section
variable {K : Frag} {C a g : Nat} {l : List Rq}
noncomputable def kOf (h : Heap) (as : List Nat) : Frag := as.filterMap fun a => (h.get? a).map fun o => (a, o)
theorem kOf_in {h : Heap} {as : List Nat} : (kOf h as).In h := fun a o e => by
  have m := mem_of_lookupK e
  obtain ⟨b, _, q⟩ := List.mem_filterMap.mp m
  obtain ⟨o', e', q⟩ := Option.map_eq_some_iff.mp q
  cases q; exact e'
noncomputable def metF (P : PT) (K : Frag) (fs : List IFun) : Fo := fs.foldr (fun F r => .an (ckFun P K F) r) .tt
theorem met_mem {fs : List IFun} (h : (metF P K fs).den G) : ∀ F ∈ fs, (ckFun P K F).den G := by
  induction fs with
  | nil => exact fun _ q => nomatch q
  | cons F r ih =>
    exact fun F' q => by
      cases q with
      | head => exact h.1
      | tail _ q => exact ih h.2 F' q
noncomputable def codesF (P : PT) (code : Nat → CodeSpec) (n : Nat) (cs : List ICode) : Fo := cs.foldr (fun c r n => .an (ckCode P c (code n)) (r (n + 1))) (fun _ => .tt) n
theorem codes_at {cs : List ICode} : ∀ {n i : Nat} {c : ICode}, (codesF P G.code n cs).den G → cs[i]? = some c → (ckCode P c (G.code (n + i))).den G := by
  induction cs with
  | nil => intro n i c _ h; cases h
  | cons d r ih => intro n i c h e; cases i with
    | zero => cases e; exact h.1
    | succ i =>
      have q := ih h.2 e
      rw [show n + 1 + i = n + (i + 1) from Nat.succ_add n i] at q
      exact q
noncomputable def spec0 : CodeSpec := ⟨"", "", ar0, .stmts [], sc0⟩
noncomputable def codeOf (l : List Rq) (k : Nat) : CodeSpec := (lk (l.map fun r => (r.k, r.spec)) k).getD spec0
noncomputable def fieldsO (o : Obj) : Array Value := match o.data with | .fields vs => vs | _ => #[]
noncomputable def tabP (K : Frag) (c : Addr) : Option Addr := (K.lookup c).bind fun o => (fldO o 11).bind codeA
noncomputable def tabL (K : Frag) (l : List Rq) : List (Nat × Tab) := ((l.map (·.c)).eraseDups).filterMap fun c => (tabP K c).map fun p => (c, ⟨p, (l.filter fun r => Nat.beq r.c c).map fun r => (r.p, r.spec.qual)⟩)
noncomputable def tabAt (tl : List (Nat × Tab)) (r : Rq) : Bool := (lk tl r.c).any fun t => decide ((r.p, r.spec.qual) ∈ t.at_)
noncomputable def isF (o : Obj) : Bool := match o.data with | .fields _ => true | _ => false
noncomputable def isStrV (v : Value) : Bool := match v with | .str _ _ => true | _ => false
noncomputable def isIntV (v : Value) : Bool := match v with | .int _ _ => true | _ => false
noncomputable def isBoolV (v : Value) : Bool := match v with | .bool _ => true | _ => false
noncomputable def hdB (c P : Nat) (o : Obj) : Bool := decide (o.cls = .type "code") && (isF o && (decide ((fieldsO o)[11]? = some (.ref P)) && (decide ((fieldsO o).getD 11 .none = .ref P) && (isStrV ((fieldsO o).getD 18 .none) && (isIntV ((fieldsO o).getD 7 .none) && (isBoolV ((fieldsO o).getD 9 .none) && (isIntV ((fieldsO o).getD 10 .none) && !Nat.beq c P)))))))
theorem isStrV_of {v : Value} (h : isStrV v = true) : ∃ s t, v = .str s t := by cases v with | str s t => exact ⟨s, t, rfl⟩ | _ => cases h
theorem isIntV_of {v : Value} (h : isIntV v = true) : ∃ s t, v = .int s t := by cases v with | int s t => exact ⟨s, t, rfl⟩ | _ => cases h
theorem isBoolV_of {v : Value} (h : isBoolV v = true) : ∃ b, v = .bool b := by cases v with | bool b => exact ⟨b, rfl⟩ | _ => cases h
theorem isF_of {o : Obj} (h : isF o = true) : o.data = .fields (fieldsO o) := by
  obtain ⟨c, d, x, s⟩ := o
  cases x with
  | fields vs => rfl
  | _ => cases h
theorem hd_of {c P : Nat} {h : Heap} {o : Obj} (e : h.get? c = some o) (b : hdB c P o = true) : CodeHd h c P := by
  have h1 := an_bool b
  have h2 := an_bool h1.2
  have h3 := an_bool h2.2
  have h4 := an_bool h3.2
  have h5 := an_bool h4.2
  have h6 := an_bool h5.2
  have h7 := an_bool h6.2
  have h8 := an_bool h7.2
  obtain ⟨f, tf, ef⟩ := isStrV_of h5.1
  obtain ⟨g, tg, eg⟩ := isIntV_of h6.1
  obtain ⟨x, ex⟩ := isBoolV_of h7.1
  obtain ⟨t, tt, et⟩ := isIntV_of h8.1
  exact ⟨o, _, f, tf, g, tg, x, t, tt, e, of_decide_eq_true h1.1, isF_of h2.1, of_decide_eq_true h3.1, of_decide_eq_true h4.1, ef, eg, ex, et, fun q => by have z := h8.2; rw [q, Nat.beq_refl] at z; cases z⟩
noncomputable def oneB (t : Tab) : Bool := t.at_.all fun q => t.at_.all fun q' => !(Nat.beq q.1.line q'.1.line && Nat.beq q.1.col q'.1.col) || decide (q.2 = q'.2)
noncomputable def empB (o : Obj) : Bool := isF o && (decide (o.cls = .none) && (o.dict.isNone && (o.slots.isEmpty && (fieldsO o).isEmpty)))
theorem empB_of {o : Obj} (h : empB o = true) : o = tabObj #[] := by
  have h1 := an_bool h
  have h2 := an_bool h1.2
  have h3 := an_bool h2.2
  have h4 := an_bool h3.2
  exact obj_eq (of_decide_eq_true h2.1) (non_of h3.1) ((isF_of h1.1).trans (congrArg Data.fields (Array.isEmpty_iff.mp h4.2))) (Array.isEmpty_iff.mp h4.1)
noncomputable def tab1 (K : Frag) (h : Heap) (e : Nat × Tab) : Bool := ((K.lookup e.1).any fun o => hdB e.1 e.2.P o) && (oneB e.2 && (((h.get? e.2.P).any empB) && (K.lookup e.2.P).isNone))
noncomputable def bmB (K : Frag) (mg : PySem.Str → Option Value) : Bool := ((mg "__builtins__").bind codeA).any fun bm => !Nat.beq bm builtinsNs && (!Nat.beq bm mainGlobals && (K.lookup bm).any fun o => decide (o.cls = .type "module") && (decide (o.dict = some builtinsNs) && (match o.data with | .plain => true | _ => false)))
noncomputable def bltB (mg mb : PySem.Str → Option Value) (x : String) : Bool := decide (mg x = none) && decide (mb x = some (.builtin x))
noncomputable def tabsB (P : PT) (K : Frag) (mg mb : PySem.Str → Option Value) (h : Heap) (l : List Rq) : Bool := P.globs.all (okG mg mb) && (P.classes.all (fnsB K) && (isFnT K 846 && (bmB K mg && (decide ((l.map (·.k)).Nodup) && (decide ((codesF P (codeOf l) 0 P.codes).run.map List.length = some 0)
  && (l.all (tabAt (tabL K l)) && ((tabL K l).all (tab1 K h) && (decide ((tabL K l).Pairwise fun a b => a.2.P ≠ b.2.P) && (bltB mg mb "abs" && (bltB mg mb "max" && bltB mg mb "len"))))))))))
noncomputable def clsB (P : PT) (K : Frag) : Bool := P.classes.all (okC K) && (excB K && txB K)
inductive Bs (P : PT) (mg mb : PySem.Str → Option Value) (K : Frag) (l : List Rq) (h₁ h : Heap) : Prop | mk (kin : K.In h) (bns : h.Ns builtinsNs mb) (sys : ∃ m, h.Ns sysModules m) (met : (metF P K P.funs).run = some l) (tb : tabsB P K mg mb h₁ l = true) (cl : clsB P K = true) (old : ∀ b o, h₁.get? b = some o → h.get? b = some o)
end
end
end Mine
section
open PySem PySem.W PyProof.Rows
namespace Mine
noncomputable def oneT (tb : String → Option Builtin) (p : Program) (w : World) (n₀ : Nat) (ann : Option Value) (r : SharedT → Thread → Option SharedT) (s : SharedT) (t : Thread) : Option SharedT :=
  cond (through t) (some s) (cond (stepOk n₀ ann t) ((stepT (denote tb) p w s t).bind fun x => r x.1 x.2) none)
noncomputable def topRunT (tb : String → Option Builtin) (p : Program) (w : World) (n₀ : Nat) (ann : Option Value) (n : Nat) : SharedT → Thread → Option SharedT :=
  Nat.rec (fun _ _ => none) (fun _ r => oneT tb p w n₀ ann r) n
theorem topRunT_of {tb : String → Option Builtin} {p : Program} {w : World} {n₀ : Nat} {ann : Option Value} {n : Nat} : ∀ {s s' : SharedT} {t : Thread}, topRunT tb p w n₀ ann n s t = some s' → topRun tb p w n₀ ann n s.abs t = some s'.abs := by
  induction n with
  | zero => exact fun h => nomatch h
  | succ n ih =>
    intro s s' t h
    change oneT tb p w n₀ ann (topRunT tb p w n₀ ann n) s t = some s' at h
    show (match through t with | true => _ | false => _) = _
    unfold oneT at h
    generalize through t = a at h ⊢
    cases a with
    | true => exact congrArg (Option.map SharedT.abs) h
    | false =>
      show (match stepOk n₀ ann t with | false => none | true => _) = _
      generalize stepOk n₀ ann t = c at h ⊢
      cases c with
      | false => exact nomatch h
      | true =>
        obtain ⟨⟨s₂, t₂⟩, e, h⟩ := Option.bind_eq_some_iff.mp h
        dsimp only
        rw [stepT_spec e]; exact ih h
noncomputable def getF (t : BT) : Nat → Option Obj :=
  BT.rec (motive := fun _ => Nat → Option Obj) (fun _ => none) (fun v _ _ l r i => Bool.rec (motive := fun _ => Option Obj) (Bool.rec (motive := fun _ => Option Obj) (r (Nat.sub (Nat.div i 2) 1)) (l (Nat.div i 2)) (Nat.beq (Nat.mod i 2) 1)) (some v) (Nat.beq i 0)) t
theorem getF_eq (t : BT) : ∀ i, getF t i = t.get i := by
  induction t with
  | nil => exact fun _ => rfl
  | node v l r hl hr =>
    intro i
    show Bool.rec (motive := fun _ => Option Obj) (Bool.rec (motive := fun _ => Option Obj) (getF r (i / 2 - 1)) (getF l (i / 2)) (Nat.beq (i % 2) 1)) (some v) (Nat.beq i 0) = (match Nat.beq i 0 with | true => some v | false => (match Nat.beq (i % 2) 1 with | true => l.get (i / 2) | false => r.get (i / 2 - 1)))
    cases Nat.beq i 0 with
    | true => rfl
    | false => cases Nat.beq (i % 2) 1 with
      | true => exact hl _
      | false => exact hr _
noncomputable def insF (t : BT) : Nat → Obj → BT :=
  BT.rec (motive := fun _ => Nat → Obj → BT) (fun _ o => .node o .nil .nil) (fun v l r hl hr i o => Bool.rec (motive := fun _ => BT) (Bool.rec (motive := fun _ => BT) (.node v l (hr (Nat.sub (Nat.div i 2) 1) o)) (.node v (hl (Nat.div i 2) o) r) (Nat.beq (Nat.mod i 2) 1)) (.node o l r) (Nat.beq i 0)) t
theorem insF_eq (t : BT) : ∀ i o, insF t i o = t.ins i o := by
  induction t with
  | nil => exact fun _ _ => rfl
  | node v l r hl hr =>
    intro i o
    show Bool.rec (motive := fun _ => BT) (Bool.rec (motive := fun _ => BT) (.node v l (insF r (i / 2 - 1) o)) (.node v (insF l (i / 2) o) r) (Nat.beq (i % 2) 1)) (.node o l r) (Nat.beq i 0) = (match Nat.beq i 0 with | true => .node o l r | false => (match Nat.beq (i % 2) 1 with | true => .node v (l.ins (i / 2) o) r | false => .node v l (r.ins (i / 2 - 1) o)))
    cases Nat.beq i 0 with
    | true => rfl
    | false => cases Nat.beq (i % 2) 1 with
      | true => exact congrArg (BT.node v · r) (hl _ _)
      | false => exact congrArg (BT.node v l ·) (hr _ _)
noncomputable def qStep (p : Program) (w : World) (r : SharedT → Thread → Option SharedT) (z : Option SharedT) (s : SharedT) (t : Thread) : Option SharedT := match t with
  | ⟨cur, code, pos, stack⟩ => match cur with
    | .load a _ k => Bool.rec (motive := fun _ => Option SharedT) none (Option.rec (motive := fun _ => Option SharedT) none (fun o => Option.rec (motive := fun _ => Option SharedT) none (fun o => r s ⟨k o, code, pos, stack⟩) (alive o)) (getF s.tree a)) (Nat.ble (Nat.succ a) s.n)
    | .fresh k => (match s with | ⟨T, n, l, g, d, u, os⟩ => r ⟨T, n, l, g, d, Nat.succ u, os⟩ ⟨k u, code, pos, stack⟩)
    | .alloc o k => (match s with | ⟨T, n, l, g, d, u, os⟩ => Option.rec (motive := fun _ => Option SharedT) none (fun _ => r ⟨insF T n o, Nat.succ n, l, g, d, u, os⟩ ⟨k n, code, pos, stack⟩) (getF (insF T n o) n))
    | .at q k => r s ⟨k (), code, q, stack⟩
    | .point _ k => r s ⟨k (), code, pos, stack⟩
    | .rule _ k => r s ⟨k (), code, pos, stack⟩
    | .ask k => r s ⟨k ⟨p, w.params⟩, code, pos, stack⟩
    | _ => z
noncomputable def fastT (tb : String → Option Builtin) (p : Program) (w : World) (n₀ : Nat) (ann : Option Value) (n : Nat) : SharedT → Thread → Option SharedT :=
  Nat.rec (fun _ _ => none) (fun _ r s t => qStep p w r (oneT tb p w n₀ ann r s t) s t) n
section
variable {tb : String → Option Builtin} {p : Program} {w : World} {n₀ : Nat} {ann : Option Value} {r r' : SharedT → Thread → Option SharedT} {s s' : SharedT} {t : Thread}
theorem one_mono (k : ∀ s t s', r s t = some s' → r' s t = some s') (h : oneT tb p w n₀ ann r s t = some s') : oneT tb p w n₀ ann r' s t = some s' := by
  unfold oneT at h ⊢
  generalize through t = a at h ⊢
  generalize stepOk n₀ ann t = b at h ⊢
  cases a with
  | true => exact h
  | false => cases b with
    | false => exact h
    | true => obtain ⟨x, e, h⟩ := Option.bind_eq_some_iff.mp h; exact Option.bind_eq_some_iff.mpr ⟨x, e, k _ _ _ h⟩
theorem one_quiet {x : Option (SharedT × Thread)} (ht : through t = false) (ho : stepOk n₀ ann t = true) (hs : stepT (denote tb) p w s t = x) : oneT tb p w n₀ ann r s t = x.bind fun y => r y.1 y.2 := by
  unfold oneT; rw [ht, ho, hs]; rfl
theorem q_of (k : ∀ s t s', r s t = some s' → r' s t = some s') (h : qStep p w r (oneT tb p w n₀ ann r s t) s t = some s') : oneT tb p w n₀ ann r' s t = some s' := by
  obtain ⟨cur, code, pos, stack⟩ := t
  obtain ⟨T, n, l, g, d, u, os⟩ := s
  cases cur with
  | load a q f =>
    rw [one_quiet (t := ⟨.load a q f, code, pos, stack⟩) (Bool.and_false _) rfl rfl]
    change ((match Nat.blt a n with | true => (match T.get a with | some o => (match alive o with | some o' => some ((⟨T, n, l, g, d, u, os⟩, ⟨f o', code, pos, stack⟩) : SharedT × Thread) | none => none) | none => none) | false => none)).bind _ = _
    rw [← getF_eq]
    change Bool.rec (motive := fun _ => Option SharedT) none (Option.rec (motive := fun _ => Option SharedT) none _ (getF T a)) (Nat.blt a n) = _ at h
    generalize Nat.blt a n = b at h ⊢
    generalize getF T a = c at h ⊢
    cases b with
    | false => exact nomatch h
    | true => cases c with
      | none => exact nomatch h
      | some o =>
        change Option.rec (motive := fun _ => Option SharedT) none _ (alive o) = _ at h
        change ((match alive o with | some o' => some ((⟨T, n, l, g, d, u, os⟩, ⟨f o', code, pos, stack⟩) : SharedT × Thread) | none => none)).bind _ = _
        generalize alive o = e at h ⊢
        cases e with
        | none => exact nomatch h
        | some o' => exact k _ _ _ h
  | alloc o f =>
    rw [one_quiet (t := ⟨.alloc o f, code, pos, stack⟩) (Bool.and_false _) rfl rfl]
    change ((match ((T.ins n o).get n).isSome with | true => some ((⟨T.ins n o, n + 1, l, g, d, u, os⟩, ⟨f n, code, pos, stack⟩) : SharedT × Thread) | false => none)).bind _ = _
    rw [← insF_eq, ← getF_eq]
    change Option.rec (motive := fun _ => Option SharedT) none _ (getF (insF T n o) n) = _ at h
    generalize getF (insF T n o) n = b at h ⊢
    cases b with
    | none => exact nomatch h
    | some _ => exact k _ _ _ h
  | fresh f => exact (one_quiet (t := ⟨.fresh f, code, pos, stack⟩) (Bool.and_false _) rfl rfl).trans (k _ _ _ h)
  | «at» q f => exact (one_quiet (t := ⟨.at q f, code, pos, stack⟩) (Bool.and_false _) rfl rfl).trans (k _ _ _ h)
  | point q f => exact (one_quiet (t := ⟨.point q f, code, pos, stack⟩) (Bool.and_false _) rfl rfl).trans (k _ _ _ h)
  | rule q f => exact (one_quiet (t := ⟨.rule q f, code, pos, stack⟩) (Bool.and_false _) rfl rfl).trans (k _ _ _ h)
  | ask f => exact (one_quiet (t := ⟨.ask f, code, pos, stack⟩) (Bool.and_false _) rfl rfl).trans (k _ _ _ h)
  | _ => exact one_mono k h
theorem fastT_of {n : Nat} : ∀ s t s', fastT tb p w n₀ ann n s t = some s' → topRunT tb p w n₀ ann n s t = some s' := by
  induction n with
  | zero => exact fun _ _ _ h => nomatch h
  | succ n ih => exact fun s t s' h => q_of ih h
end
noncomputable def treeOf (l : List Obj) : PySem.W.BT := (l.foldl (fun (x : PySem.W.BT × Nat) o => (x.1.ins x.2 o, x.2 + 1)) (PySem.W.BT.nil, 0)).1
noncomputable def s0 (P : Params) (os : OsState) : SharedT := ⟨treeOf (boot_heap P).objs.toList, (boot_heap P).objs.size, (boot_heap P).life, #[], boot_drawn, boot_toks, os⟩
theorem s0_abs : ∀ (P : Params) (os : OsState), (s0 P os).abs = ⟨boot_heap P, #[], boot_drawn, boot_toks, os⟩ := fun P os => by kernel_rfl
abbrev pw : Program := PySem.Challenge.pw_ac0033_01
noncomputable def goP (p : Program) (w : World) (os : OsState) (n : Nat) : Option SharedT :=
  fastT treeTable p w (boot_heap w.params).objs.size ((boot_heap w.params).nsMap mainGlobals "__annotations__") n (s0 w.params os) (topStub p)
noncomputable def cAddrs : List Nat := [cStatics, 177, 176, 556, 555, 828, 827, 967, 966, 896, 895, 1000, 999, 38, 37, 198, 197, 849, 848]
noncomputable def fAddrs : List Nat := [4, 160, 510, 327, 363, 129, 128, 136, 135, 141, 140, 148, 147, 153, 152, 167, 166, 174, 173, 188, 187, 241, 234, 240, 334, 333, 370, 369, 377, 376, 400, 399, 424, 417, 423, 433, 426, 432, 456, 455, 479, 478, 486, 485, 491, 490, 498, 497, 505, 504, 524, 523, 567, 566, 673, 672, 688, 681, 687, 695, 694, 709, 708, 716, 715, 723, 722, 730, 729, 744, 743, 765, 764, 772, 771, 846, 845, 886, 879, 885, 893, 892, 915, 908, 914, 922, 921, 929, 928, 936, 935, 943, 942, 950, 949, 957, 956, 964, 963, 983, 982, 990, 989, 997, 996, 1009, 1008, 1016, 1015, 1023, 1022, 1030, 1029, 1037, 1036, 1044, 1043, 1051, 1050, 1058, 1057, 1065, 1064, 1070, 1069]
theorem filterMap_same {α β : Type} {f g : α → Option β} {l : List α} (h : ∀ a ∈ l, f a = g a) : l.filterMap f = l.filterMap g := by
  induction l with
  | nil => rfl
  | cons a r ih => rw [List.filterMap_cons, List.filterMap_cons, h a (.head _), ih fun b hb => h b (.tail _ hb)]
noncomputable def lawAt : Nat := pw.main.body.length - 1
noncomputable def qv : Program := view pw [lawAt]
noncomputable def loose : List PySem.Str := (pw.main.scope.names.map (·.1)).filter fun x => x != ("law" : PySem.Str)
noncomputable def Fo.okB : Fo → Bool
  | .ff => false
  | .tt => true
  | .an a b => a.okB && b.okB
  | .wh b a => cond b a.okB false
  | .rq _ => true
noncomputable def Fo.rqs : Fo → List Rq
  | .an a b => a.rqs ++ b.rqs
  | .wh _ a => a.rqs
  | .rq r => [r]
  | _ => []
theorem Fo.ok_run {f : Fo} (h : f.okB = true) : f.run = some f.rqs := by
  induction f with
  | ff => cases h
  | tt => rfl
  | an a b ha hb =>
    have h := an_bool h
    show (a.run.bind fun l => b.run.bind fun m => some (l ++ m)) = some (a.rqs ++ b.rqs)
    rw [ha h.1, hb h.2]; rfl
  | wh b a ha => cases b with
    | true => exact ha h
    | false => cases h
  | rq r => rfl
noncomputable def metB (P : PT) (K : Frag) (fs : List IFun) : Bool := fs.all fun F => (ckFun P K F).okB
theorem metB_ok {P : PT} {K : Frag} {fs : List IFun} (h : metB P K fs = true) : (metF P K fs).okB = true := by
  induction fs with
  | nil => rfl
  | cons F r ih =>
    have h := Bool.and_eq_true_iff.mp ((List.all_cons ..).symm.trans h)
    exact Bool.and_eq_true_iff.mpr ⟨h.1, ih h.2⟩
noncomputable def kS (s : Shared) : Frag := kOf s.heap (cAddrs ++ fAddrs)
noncomputable def kT (t : BT) : Frag := (cAddrs ++ fAddrs).filterMap fun a => ((t.get a).bind alive).map fun o => (a, o)
noncomputable def kB (t : BT) (n : Nat) : Bool := (cAddrs ++ fAddrs).all fun a => Nat.blt a n && (t.get a).isSome
theorem kT_of {t : BT} {n : Nat} {life : Life} (h : kB t n = true) : kOf (absHeap t n life) (cAddrs ++ fAddrs) = kT t := by
  unfold kT kOf
  refine filterMap_same fun a ha => ?_
  have q := an_bool (List.all_eq_true.mp h a ha)
  cases e : t.get a with
  | none => rw [e] at q; cases q.2
  | some o => rw [abs_get (Nat.le_of_ble_eq_true q.1) e]; rfl
noncomputable def c1B (pr : PT) (K : Frag) (s : Shared) : Bool := (pr.classes.take 3).all (okC K) && ((excB K && txB K) && (s.heap.isNs sysModules && s.heap.isNs builtinsNs))
noncomputable def XtT (pr : PT) (K : Frag) (s : Shared) : Bool := tabsB pr K (s.heap.nsMap mainGlobals) (s.heap.nsMap builtinsNs) s.heap (metF pr K pr.funs).rqs
noncomputable def look1 (p q : Program) (loose mods : List PySem.Str) (pr : PT) (w : World) (os : OsState) (n : Nat) := (goP p w os n).map fun sT => (staticsOk mods (boot_heap w.params) sT.abs.heap && namesBound p sT.abs.heap && gensDone sT.abs && laidKept (boot_heap w.params) sT.abs.heap, openSeen q loose mods (c1B pr (kT sT.tree)) true sT.abs, ())
noncomputable def look2 (p : Program) (pr : PT) (w : World) (os : OsState) (n : Nat) := (goP p w os n).map fun sT => kB sT.tree sT.n && XtT pr (kT sT.tree) sT.abs
noncomputable def look3 (p : Program) (pr : PT) (l : List IFun) (cl : List (Nat × List (Nat × CA))) (w : World) (os : OsState) (n : Nat) := (goP p w os n).map fun sT => metB pr (kT sT.tree) l && cl.all (okC (kT sT.tree))
noncomputable def saidP (p : Program) : Bool := OpenLaw.wellSaid { prog := p, name := (PySem.Str.ofString "law"), about := [(PySem.Str.ofString "TransactionManager"), (PySem.Str.ofString "registerSynch")], foot := 11, most := some 63, bound := none, writes := false }
noncomputable def one' {α : Type} (_ : α) : Nat := 1
theorem prepF : (Nat.ble 1 (one' (look1, look2, look3, saidP))) = true := by k_qdec
end Mine
end
section
open PySem PySem.W PyProof.Rows
namespace Mine
set_option maxHeartbeats 8000000 in
theorem said0 : PySem.W.Fast.tw8935794307430482537 pw = true := by kernel_rfl
theorem said1 : PySem.Challenge.rw_ac0033_01.wellSaid = true := (congrFun PySem.W.Fast.te8935794307430482537 pw).trans said0
end Mine
end
section
open PySem PySem.W PyProof.Rows
namespace Mine
set_option maxHeartbeats 4000000 in
theorem t1 (w : World) (os : OsState) : PySem.W.Fast.tw18309523048354253811 pw qv loose (importedModules pw.main.body) prog w os 8500 = some (true, openGood qv loose, ()) := by kernel_rfl
end Mine
end
section
open PySem PySem.W PyProof.Rows
namespace Mine
set_option maxHeartbeats 4000000 in
theorem t2 (w : World) (os : OsState) : PySem.W.Fast.tw2328526617337647392 pw prog w os 8500 = some true := by kernel_rfl
end Mine
end
section
open PySem PySem.W PyProof.Rows
namespace Mine
set_option maxHeartbeats 4000000 in
theorem t3 (w : World) (os : OsState) : PySem.W.Fast.tw413877350127670083 pw prog (prog.funs.take 38) [] w os 8500 = some true := by kernel_rfl
end Mine
end
section
open PySem PySem.W PyProof.Rows
namespace Mine
set_option maxHeartbeats 4000000 in
theorem t4 (w : World) (os : OsState) : PySem.W.Fast.tw413877350127670083 pw prog (prog.funs.drop 38) (prog.classes.drop 3) w os 8500 = some true := by kernel_rfl
end Mine
end
namespace Mine
open PySem PySem.W PyProof.Rows PySem.Calls
section
variable {X : Cx} {fr fr' : SFr} {σ σ' : SS} {w w' : Wd}
theorem At.lt (S : At X fr σ w) {i : Nat} (h : i < σ.objs.length) : Ob X w σ.objs.length i σ.objs[i] := S.1 i _ (List.getElem?_eq_getElem h)
theorem At.inj (S : At X fr σ w) {i j : Nat} (hi : i < σ.objs.length) (hj : j < σ.objs.length) (e : w.ρ i = w.ρ j) : i = j := Cl.ob_inj ((S.lt hi).2.symm.trans ((congrArg w.cl e).trans (S.lt hj).2))
theorem At.lc (S : At X fr σ w) : (X.lc = .fr ∧ X.env.locals = X.L) ∨ X.lc = .lo := by
  unfold Cx.lc
  cases e : X.lm with
  | none => exact .inl ⟨rfl, S.2.17 e⟩
  | some m => exact .inr rfl
theorem move (S : At X fr σ w) (Ch : Addr → Prop) (chg : Cl → Prop) (hC : ∀ b, Ch b → chg (w.cl b)) (ek : w'.k = w.k)
    (hk : ∀ b o, w.s.heap.get? b = some o → ¬ Ch b → w'.s.heap.get? b = some o) (hs : ∀ b o, Ch b → w.s.heap.get? b = some o → Soft o) (hc : ∀ b, w.cl b ≠ .non → w'.cl b = w.cl b)
    (he : ∀ b, w'.cl b ≠ .non → (w.cl b = .non ∨ Ch b) → ∃ o, w'.s.heap.get? b = some o) (le : σ.Le σ') (er : σ'.rows = σ.rows) (hρ : ∀ i, i < σ.objs.length → w'.ρ i = w.ρ i)
    (ho : ∀ i so, σ'.objs[i]? = some so → An (σ.objs[i]? = some so) (¬ chg (.ob i) ∧ ¬ chg (.tb i)) ∨ Ob X w' σ'.objs.length i so) (c1 : ¬ chg .kept) (c2 : ¬ chg .tab)
    (nL : w'.s.heap.Ns X.L w'.m) (nl : w'.s.heap.Ns X.env.locals w'.me) (hn : ∀ x v, lk fr'.loc x = some v → NmAt X.G.V σ'.objs.length w' x v) (hce : fr'.cel = fr.cel) (hg : w'.s.gens = w.s.gens) (hos : w'.s.os = w.s.os)
    (hh : ∀ e, X.hd = some e → chg (.ob e) → Tbd w'.s.heap (w'.ρ e)) (hlm : ∀ m0, X.lm = some m0 → w'.m = w.m) : At X fr' σ' w' := by
  have hk' : ∀ {b o}, w.s.heap.get? b = some o → ∀ {c}, w.cl b = c → ¬ chg c → w'.s.heap.get? b = some o := fun e _ q n => hk _ _ e fun z => n (q ▸ hC _ z)
  have cls : ∀ {b c}, w.cl b = c → c ≠ .non → w'.cl b = c := fun q n => (hc _ (q ▸ n)).trans q
  cases S with
  | mk ob fs kp _ _ cL cl _ ce tb g os rows hd lm ab st ff od ex =>
    refine .mk (fun i so e => ?_) fs (fun b o e => ?_) nL nl (cls cL (nomatch ·)) (cls cl (by unfold Cx.lc; cases X.lm <;> exact (nomatch ·))) hn (fun x i e => ?_) (fun t ht => ?_) (hg.trans g) (hos.trans os) (fun r hr => ?_) (fun e he => ?_) (fun m0 h => (hlm m0 h).trans (lm m0 h)) (ek ▸ ab) (ek ▸ st) (ek ▸ ff) (fun a ha => ek ▸ od a ha) fun b hb => ?_
    · cases ho i so e with
      | inr y => exact y
      | inl y => cases ob i so y.1 with
        | mk oi c lt =>
          have hi := SS.at_lt y.1
          exact ⟨oi.mv (Ch := Ch) hk hs (fun T t => by cases t with | mk o g f c => exact ⟨o, hk' g c y.2.2, f, cls c (nomatch ·)⟩) (fun z => y.2.1 (c ▸ hC _ z)) (hρ i hi) hρ lt, (congrArg w'.cl (hρ i hi)).trans (cls c (nomatch ·)), SObj.lt_le le.1 lt⟩
    · have q := kp b o (ek ▸ e)
      exact ⟨hk' q.1 q.2 c1, cls q.2 (nomatch ·)⟩
    · have q := ce x i (hce ▸ e)
      exact ⟨(hρ i q.2).symm ▸ q.1, Nat.lt_of_lt_of_le q.2 le.1⟩
    · have q := tb t ht
      exact ⟨q.1.same (Ch := Ch) hk hs fun z => c2 (q.2 ▸ hC _ z), cls q.2 (nomatch ·)⟩
    · have q := rows r (er ▸ hr)
      exact ⟨q.1.ext hρ q.2, Row.lt_le le.1 q.2⟩
    · cases hd e he with
      | mk is h t =>
        obtain ⟨C, d, hi⟩ := is
        have hl := SS.at_lt hi
        refine ⟨let ⟨d', q⟩ := le.2 e C d hi; ⟨C, d', q⟩, (hρ e hl).symm ▸ h, ?_⟩
        by_cases q : chg (.ob e)
        · exact hh e he q
        · rw [hρ e hl]
          cases t with | mk o g T f => exact ⟨o, hk' g (ob e _ hi).2 q, T, f⟩
    · by_cases q : w.cl b = .non ∨ Ch b
      · exact he b hb q
      · obtain ⟨o, e⟩ := ex b fun z => q (.inl z)
        exact ⟨o, hk b o e fun z => q (.inr z)⟩
@[reducible] noncomputable def Wd.hp (w : Wd) (h : Heap) (t : Nat) : Wd := { w with s := { w.s with heap := h, toks := t } }
noncomputable def grow (ρ : Nat → Addr) (n : Nat) (a : Addr) (i : Nat) : Addr := cond (Nat.beq i n) a (ρ i)
theorem grow_lt {ρ : Nat → Addr} {n : Nat} {a : Addr} (i : Nat) (h : i < n) : grow ρ n a i = ρ i := by
  unfold grow
  cases q : Nat.beq i n with
  | true => exact absurd (Nat.eq_of_beq_eq_true q ▸ h) (Nat.lt_irrefl _)
  | false => rfl
theorem grow_eq {ρ : Nat → Addr} {n : Nat} {a : Addr} : grow ρ n a n = a := by
  unfold grow
  rw [Nat.beq_refl]; rfl
noncomputable def clUp (cl : Addr → Cl) (a : Addr) (c : Cl) (b : Addr) : Cl := if b = a then c else cl b
theorem clUp_eq {cl : Addr → Cl} {a : Addr} {c : Cl} : clUp cl a c a = c := if_pos rfl
theorem clUp_ne {cl : Addr → Cl} {a b : Addr} {c : Cl} (h : b ≠ a) : clUp cl a c b = cl b := if_neg h
@[reducible] noncomputable def Wd.al (w : Wd) (n : Nat) (a : Addr) (h : Heap) (t : Nat) : Wd := { w with ρ := grow w.ρ n a, cl := clUp w.cl a (.ob n), s := { w.s with heap := h, toks := t } }
theorem none_size {h : Heap} : h.get? h.objs.size = none := by
  cases q : h.get? h.objs.size with
  | none => rfl
  | some o => exact absurd (Heap.lt_size q) (Nat.lt_irrefl _)
theorem At.nlF (S : At X fr σ w) {h' : Heap} (hk : ∀ b o, w.s.heap.get? b = some o → b ≠ X.L → h'.get? b = some o) (nL : h'.Ns X.L w.m) : h'.Ns X.env.locals w.me := by
  rcases S.lc with q | q
  · have e : w.me = w.m := ns_unique (q.2 ▸ S.5) S.4
    rw [q.2, e]; exact nL
  · exact ns_at S.5 fun o e => hk _ o e fun z => nomatch (q.symm.trans S.7.symm).trans ((congrArg w.cl z).trans S.6)
theorem NmAt.ext {V : Val} {n n' : Nat} {x : Nat} {v : SV} (hρ : ∀ i, i < n → w'.ρ i = w.ρ i) (le : n ≤ n') (me : w'.me = w.me) (N : NmAt V n w x v) : NmAt V n' w' x v := by
  cases N with | mk lt y e d => exact ⟨SV.lt_le le lt, y, me ▸ e, d.ext hρ lt⟩
theorem At.nme (S : At X fr σ w) (hρ : ∀ i, i < σ.objs.length → w'.ρ i = w.ρ i) (le : σ.Le σ') (me : w'.me = w.me) (x : Nat) (v : SV) (e : lk fr.loc x = some v) : NmAt X.G.V σ'.objs.length w' x v := NmAt.ext (w := w) hρ le.1 me (S.8 x v e)
theorem ne_fr (S : At X fr σ w) {b : Addr} {c : Cl} (h : w.cl b = c) (n : c ≠ .fr) : b ≠ X.L := fun q => n (h.symm.trans (q ▸ S.6))
theorem fr_lc : X.lc ≠ .non := by unfold Cx.lc; cases X.lm <;> exact (nomatch ·)
theorem ns_ex {h : Heap} {a : Addr} {m : PySem.Str → Option Value} (x : h.Ns a m) : ∃ o, h.get? a = some o := let ⟨o, _, _, e, _⟩ := x; ⟨o, e⟩
theorem oi_ex {G : Gl} {cl : Addr → Cl} {ρ : Nat → Addr} {h : Heap} {i : Nat} {a : Addr} {so : SObj} (x : OI G cl ρ h i a so) : ∃ o, h.get? a = some o := by cases x with | mk o e _ _ => exact ⟨o, e⟩
theorem updF (S : At X fr σ w) {i : Nat} {so so' : SObj} (hi : σ.objs[i]? = some so) {h' : Heap} {t : Nat} (hk : ∀ b o, w.s.heap.get? b = some o → b ≠ w.ρ i → b ≠ X.L → h'.get? b = some o) (nL : h'.Ns X.L w.m) (soft : ∀ o, w.s.heap.get? (w.ρ i) = some o → Soft o)
    (oi : OI X.G w.cl w.ρ h' i (w.ρ i) so') (lt : so'.lt σ.objs.length) (le : σ.Le (σ.set i so')) (hh : X.hd = some i → Tbd h' (w.ρ i)) : At X fr (σ.set i so') (w.hp h' t) := by
  have hl := SS.at_lt hi
  have ci := (S.1 i _ hi).2
  refine move S (fun b => b = w.ρ i ∨ b = X.L) (fun c => c = .ob i ∨ c = .fr) (fun b q => q.elim (fun q => .inl (q ▸ ci)) fun q => .inr (q ▸ S.6)) rfl (fun b o e n => hk b o e (fun q => n (.inl q)) fun q => n (.inr q)) (fun b o c e => c.elim (fun q => soft o (q ▸ e)) fun q => ns_soft S.4 o (q ▸ e)) (fun _ _ => rfl)
    (fun b n c => c.elim (fun q => absurd q n) fun c => c.elim (fun q => q ▸ oi_ex oi) fun q => q ▸ ns_ex nL) le rfl (fun _ _ => rfl) (fun j sj e => ?_) (fun q => q.elim (nomatch ·) (nomatch ·)) (fun q => q.elim (nomatch ·) (nomatch ·))
    nL ?_ (S.nme (fun _ _ => rfl) le rfl) rfl rfl rfl (fun e he c => ?_) fun _ _ => rfl
  · by_cases q : i = j
    · subst q
      cases Option.some.inj ((SS.set_at hl).symm.trans e)
      exact .inr ⟨oi, ci, SObj.lt_le le.1 lt⟩
    · exact .inl ⟨(SS.set_ne q).symm.trans e, fun z => z.elim (fun z => q (Cl.ob_inj z).symm) (nomatch ·), fun z => z.elim (nomatch ·) (nomatch ·)⟩
  · rcases S.lc with q | q
    · have e : w.me = w.m := ns_unique (q.2 ▸ S.5) S.4
      rw [q.2, e]; exact nL
    · exact ns_at S.5 fun o e => hk _ o e (fun z => nomatch (q.symm.trans S.7.symm).trans ((congrArg w.cl z).trans ci)) fun z => nomatch (q.symm.trans S.7.symm).trans ((congrArg w.cl z).trans S.6)
  · cases c with
    | inl c => cases c; exact hh he
    | inr c => cases c
theorem upd (S : At X fr σ w) {i : Nat} {so so' : SObj} (hi : σ.objs[i]? = some so) {h' : Heap} {t : Nat} (hk : ∀ b o, w.s.heap.get? b = some o → b ≠ w.ρ i → h'.get? b = some o) (soft : ∀ o, w.s.heap.get? (w.ρ i) = some o → Soft o)
    (oi : OI X.G w.cl w.ρ h' i (w.ρ i) so') (lt : so'.lt σ.objs.length) (le : σ.Le (σ.set i so')) (hh : X.hd = some i → Tbd h' (w.ρ i)) : At X fr (σ.set i so') (w.hp h' t) :=
  updF S hi (fun b o e n _ => hk b o e n) (ns_at S.4 fun o e => hk _ o e fun z => nomatch S.6.symm.trans ((congrArg w.cl z).trans (S.1 i _ hi).2)) soft oi lt le hh
theorem newG (S : At X fr σ w) {a : Addr} {so : SObj} {o : Obj} {h' : Heap} {t : Nat} (hk : ∀ b o, w.s.heap.get? b = some o → b ≠ X.L → h'.get? b = some o) (nL : h'.Ns X.L w.m) (non : w.cl a = .non) (e : h'.get? a = some o) (d : OD X.G w.ρ so o)
    (x : OX X.G (clUp w.cl a (.ob σ.objs.length)) h' σ.objs.length so o) (lt : so.lt σ.objs.length) : At X fr (σ.new so) (w.al σ.objs.length a h' t) := by
  have le : σ.Le (σ.new so) := .new
  refine move S (fun b => b = X.L) (fun c => c = .fr) (fun b q => q ▸ S.6) rfl hk (fun b o c e => ns_soft S.4 o (c ▸ e)) (fun b n => clUp_ne fun q => n (q ▸ non))
    (fun b n c => ?_) le rfl grow_lt (fun j sj q => ?_) (nomatch ·) (nomatch ·) nL (S.nlF hk nL) (S.nme grow_lt le rfl) rfl rfl rfl (fun e he c => nomatch c) fun _ _ => rfl
  · by_cases q : b = a
    · exact ⟨o, q ▸ e⟩
    · cases c with
      | inl c => exact absurd ((clUp_ne q).trans c) n
      | inr c => exact c ▸ ns_ex nL
  · by_cases z : j < σ.objs.length
    · exact .inl ⟨(SS.new_lt z).symm.trans q, (nomatch ·), (nomatch ·)⟩
    · have hj := SS.at_lt q
      rw [SS.len_new] at hj
      cases Nat.le_antisymm (Nat.le_of_lt_succ hj) (Nat.le_of_not_lt z)
      cases Option.some.inj (SS.new_at.symm.trans q)
      have g : grow w.ρ σ.objs.length a σ.objs.length = a := grow_eq
      exact .inr ⟨⟨o, (congrArg h'.get? g).trans e, d.ext grow_lt lt, x⟩, (congrArg _ g).trans clUp_eq, SObj.lt_le le.1 lt⟩
theorem At.non (S : At X fr σ w) {a : Addr} (ha : w.s.heap.get? a = none) : w.cl a = .non := by
  by_cases q : w.cl a = .non
  · exact q
  · obtain ⟨o, z⟩ := S.20 a q; cases ha.symm.trans z
theorem newF (S : At X fr σ w) {a : Addr} {so : SObj} {o : Obj} {h' : Heap} {t : Nat} (hk : ∀ b o, w.s.heap.get? b = some o → b ≠ X.L → h'.get? b = some o) (nL : h'.Ns X.L w.m) (ha : w.s.heap.get? a = none) (e : h'.get? a = some o) (d : OD X.G w.ρ so o)
    (x : OX X.G (clUp w.cl a (.ob σ.objs.length)) h' σ.objs.length so o) (lt : so.lt σ.objs.length) : At X fr (σ.new so) (w.al σ.objs.length a h' t) := newG S hk nL (S.non ha) e d x lt
theorem new (S : At X fr σ w) {a : Addr} {so : SObj} {o : Obj} {h' : Heap} {t : Nat} (hk : ∀ b o, w.s.heap.get? b = some o → h'.get? b = some o) (ha : w.s.heap.get? a = none) (e : h'.get? a = some o) (d : OD X.G w.ρ so o)
    (x : OX X.G (clUp w.cl a (.ob σ.objs.length)) h' σ.objs.length so o) (lt : so.lt σ.objs.length) : At X fr (σ.new so) (w.al σ.objs.length a h' t) := newF S (fun b o e _ => hk b o e) (ns_at S.4 fun o => hk _ o) ha e d x lt
theorem keepF (S : At X fr σ w) {h' : Heap} {t : Nat} (hk : ∀ b o, w.s.heap.get? b = some o → b ≠ X.L → h'.get? b = some o) (nL : h'.Ns X.L w.m) : At X fr σ (w.hp h' t) :=
  move S (fun b => b = X.L) (fun c => c = .fr) (fun b q => q ▸ S.6) rfl hk (fun b o c e => ns_soft S.4 o (c ▸ e)) (fun b n => rfl)
    (fun b n c => c.elim (fun q => absurd q n) fun q => q ▸ ns_ex nL) (.refl _) rfl (fun _ _ => rfl) (fun j sj q => .inl ⟨q, (nomatch ·), (nomatch ·)⟩) (nomatch ·) (nomatch ·) nL (S.nlF hk nL) (S.nme (fun _ _ => rfl) (.refl _) rfl) rfl rfl rfl (fun e he c => nomatch c) fun _ _ => rfl
theorem keep (S : At X fr σ w) {h' : Heap} {t : Nat} (hk : ∀ b o, w.s.heap.get? b = some o → h'.get? b = some o) : At X fr σ (w.hp h' t) := keepF S (fun b o e _ => hk b o e) (ns_at S.4 fun o => hk _ o)
theorem toks (S : At X fr σ w) (t : Nat) : At X fr σ (w.hp w.s.heap t) := keep S fun _ _ e => e
@[reducible] noncomputable def Wd.nms (w : Wd) (X : Cx) (me : PySem.Str → Option Value) (h : Heap) (t : Nat) : Wd := { w with m := (match X.lm with | none => me | some _ => w.m), me := me, s := { w.s with heap := h, toks := t } }
theorem reName (S : At X fr σ w) {h' : Heap} {t : Nat} {me : PySem.Str → Option Value} (hn : h'.Ns X.env.locals me) (hs : Heap.SameBut X.env.locals w.s.heap h') (hv : ∀ x v, lk fr'.loc x = some v → NmAt X.G.V σ.objs.length (w.nms X me h' t) x v) (hc : fr'.cel = fr.cel) : At X fr' σ (w.nms X me h' t) := by
  have hk : ∀ b o, w.s.heap.get? b = some o → ¬ b = X.env.locals → h'.get? b = some o := fun b o e n => (hs.2 b n).trans e
  refine move S (fun b => b = X.env.locals) (fun c => c = X.lc) (fun b q => q ▸ S.7) rfl hk (fun b o c e => ns_soft S.5 o (c ▸ e)) (fun b n => rfl) (fun b n c => c.elim (fun q => absurd q n) fun q => q ▸ ns_ex hn) (.refl _) rfl (fun _ _ => rfl) (fun j sj q => .inl ⟨q, ?_, ?_⟩) ?_ ?_ ?_ hn hv hc rfl rfl (fun e he c => ?_) fun m0 h => ?_
  · unfold Cx.lc; cases X.lm <;> exact (nomatch ·)
  · unfold Cx.lc; cases X.lm <;> exact (nomatch ·)
  · unfold Cx.lc; cases X.lm <;> exact (nomatch ·)
  · unfold Cx.lc; cases X.lm <;> exact (nomatch ·)
  · show h'.Ns X.L (match X.lm with | none => me | some _ => w.m)
    cases e : X.lm with
    | none => exact S.2.17 e ▸ hn
    | some m => exact ns_at S.4 fun o e' => hk _ o e' fun q => nomatch ((show X.lc = .lo by unfold Cx.lc; rw [e]).symm.trans (S.7.symm.trans ((congrArg w.cl q).symm.trans S.6)))
  · exact absurd c (by unfold Cx.lc; cases X.lm <;> exact (nomatch ·))
  · show (match X.lm with | none => me | some _ => w.m) = w.m
    rw [h]
end
end Mine
namespace Mine
open PySem PySem.W PyProof.Rows PySem.Calls
inductive Oc (α : Type) | val (R : (Nat → Addr) → α → Prop) | exc (e : Nat)
noncomputable def Oc.post {α : Type} (o : Oc α) (Q : α → Shared → Prop) (E : Value → Shared → Prop) (w : Wd) : Prop := match o with | .val R => ∀ a, R w.ρ a → Q a w.s | .exc e => E (.ref (w.ρ e)) w.s
noncomputable def Oc.is {α : Type} (o : Oc α) (σ : SS) : Prop := match o with | .val _ => True | .exc e => ∃ C d, σ.objs[e]? = some (.exc C d)
inductive TP {α : Type} (X : Cx) (I : (Nat → Addr) → Prop) (fr : SFr) (σ : SS) (t : Sem α) (fr' : SFr) (σ' : SS) (o : Oc α) : Prop | mk (le : σ.Le σ') (is : o.is σ')
  (ok : ∀ (w : Wd) (Q : α → Shared → Prop) (E : Value → Shared → Prop), I w.ρ → At X fr σ w → (∀ w', Ex X.outer σ.objs.length w w' → At X fr' σ' w' → o.post Q E w') → wpAny X.M X.A t Q E w.s)
noncomputable def yes (_ : Nat → Addr) : Prop := True
abbrev T3 {α : Type} (X : Cx) (fr : SFr) (σ : SS) (t : Sem α) (fr' : SFr) (σ' : SS) (o : Oc α) : Prop := TP X yes fr σ t fr' σ' o
noncomputable def DV (V : Val) (n : Nat) (v : SV) (ρ : Nat → Addr) (y : Value) : Prop := An (Den V ρ v y) (v.lt n)
noncomputable def DVs (V : Val) (n : Nat) (vs : List SV) (ρ : Nat → Addr) (ys : List Value) : Prop := An (All2 (Den V ρ) vs ys) (∀ v ∈ vs, v.lt n)
noncomputable def rO (X : Cx) (σ : SS) (r : Rs) : Oc Value := match r with | .ok v => .val (DV X.G.V σ.objs.length v) | .exc e => .exc e
abbrev VT (X : Cx) (fr : SFr) (σ : SS) (t : Sem Value) (r : Rs) (σ' : SS) : Prop := T3 X fr σ t fr σ' (rO X σ' r)
abbrev HV (X : Cx) (fr : SFr) (σ : SS) (t : Sem Value) (v : SV) (σ' : SS) : Prop := VT X fr σ t (.ok v) σ'
theorem DV.ext {V : Val} {n m : Nat} {v : SV} {ρ ρ' : Nat → Addr} {y : Value} (x : DV V n v ρ y) (h : ∀ i, i < n → ρ' i = ρ i) (le : n ≤ m) : DV V m v ρ' y := ⟨x.1.ext h x.2, SV.lt_le le x.2⟩
theorem DVs.ext {V : Val} {n m : Nat} {vs : List SV} {ρ ρ' : Nat → Addr} {ys : List Value} (x : DVs V n vs ρ ys) (h : ∀ i, i < n → ρ' i = ρ i) (le : n ≤ m) : DVs V m vs ρ' ys := ⟨x.1.monoM (fun _ _ p q => q.ext h p) x.2, fun v q => SV.lt_le le (x.2 v q)⟩
section
variable {X : Cx} {fr fr' : SFr} {σ σ' σ₁ σ₂ : SS} {w w' : Wd}
theorem Ex.hp {O : List Env} {n : Nat} {h : Heap} {t : Nat} : Ex O n w (w.hp h t) := .of rfl fun _ _ => rfl
theorem Ex.al {O : List Env} {n : Nat} {a : Addr} {h : Heap} {t : Nat} : Ex O n w (w.al n a h t) := .of rfl grow_lt
theorem Ex.nms {O : List Env} {n : Nat} {me : PySem.Str → Option Value} {h : Heap} {t : Nat} : Ex O n w (w.nms X me h t) := .of rfl fun _ _ => rfl
theorem HV.val {t : Sem Value} {v : SV} (h : ∀ (w : Wd) (Q : Value → Shared → Prop) E, At X fr σ w → (∀ x t, DV X.G.V σ.objs.length v w.ρ x → Q x { w.s with toks := t }) → wpAny X.M X.A t Q E w.s) : HV X fr σ t v σ :=
  ⟨.refl _, trivial, fun w Q E _ S k => h w Q E S fun x t d => k (w.hp w.s.heap t) .hp (toks S t) x d⟩
theorem newQ {so : SObj} {Q : Value → Shared → Prop} {E : Value → Shared → Prop} {n : Nat} {a : Addr} {h' : Heap} {t : Nat} (k : ∀ w'', Ex X.outer n w w'' → At X fr (σ₁.new so) w'' → (rO X (σ₁.new so) (.ok (.ref σ₁.objs.length))).post Q E w'')
    (x : Ex X.outer n w w') (le : n ≤ σ₁.objs.length) (S : At X fr (σ₁.new so) (w'.al σ₁.objs.length a h' t)) : Q (.ref a) { w'.s with heap := h', toks := t } :=
  k _ (x.trans le .al) S (.ref a) ⟨congrArg Value.ref grow_eq.symm, Nat.lt_of_lt_of_eq (Nat.lt_succ_self _) SS.len_new.symm⟩
theorem nm_ne {x : Nat} {s : PySem.Str} (h : (!names'.contains s && s.cps.toList.all (fun c => Nat.blt c 2000000)) = true) : nm x ≠ s := by
  have h1 := an_bool h
  unfold nm
  rw [List.getD_eq_getElem?_getD]
  cases e : names'[x]? with
  | some y => intro q; exact absurd (List.contains_iff_mem.mpr (q ▸ List.mem_of_getElem? e : s ∈ names')) (by have := h1.1; intro z; rw [z] at this; cases this)
  | none =>
    intro q
    cases q
    exact absurd (Nat.le_of_ble_eq_true (an_bool h1.2).1) (Nat.not_lt.mpr (Nat.le_add_left _ _))
theorem debug_ne (x : Nat) : (nm x == ("__debug__" : PySem.Str)) = false := beq_eq_false_iff_ne.mpr (nm_ne (by decide +kernel))
theorem ev_none {k p} : HV X fr σ (eval (.Constant .none k p) X.env) .none σ := .val fun w Q E S h => wpAny_Constant_none (h .none w.s.toks ⟨rfl, trivial⟩)
theorem ev_bool {b k p} : HV X fr σ (eval (.Constant (.bool b) k p) X.env) (.bool b) σ := .val fun w Q E S h => wpAny_Constant_bool (h (.bool b) w.s.toks ⟨rfl, trivial⟩)
theorem ev_int {i k p} : HV X fr σ (eval (.Constant (.int i) k p) X.env) (.int i) σ := .val fun w Q E S h => wpAny_Constant_int (h _ _ ⟨⟨_, rfl⟩, trivial⟩)
theorem ev_str {n k p} : HV X fr σ (eval (.Constant (.str (nm n)) k p) X.env) (.str n) σ := .val fun w Q E S h => wpAny_Constant_str (h _ _ ⟨⟨_, rfl⟩, trivial⟩)
theorem At.kind (S : At X fr σ w) : X.env.scope.kind = .function := S.2.2
theorem ev_loc {x p v} (hk : X.env.scope.names.lookup (nm x) = some .local) (hx : lk fr.loc x = some v) : HV X fr σ (eval (.Name (nm x) p) X.env) v σ :=
  .val fun w Q E S h => by cases S.8 x v hx with | mk lt y e d => exact wpAny_Name (wpAny_loadName_local S.kind hk S.5 e (h y w.s.toks ⟨d, lt⟩)) (debug_ne x)
theorem At.cell (S : At X fr σ w) {i : Nat} {v : SV} (hi : σ.objs[i]? = some (.cell (some v))) {C : Prop} (k : ∀ y, w.s.heap.IsCell (w.ρ i) (some y) → DV X.G.V σ.objs.length v w.ρ y → C) : C := by
  cases S.1 i _ hi with
  | mk oi _ lt => cases oi with
    | mk o e d _ => cases d with
      | mk x d r => obtain ⟨y, q, dy⟩ := r; exact k y ⟨o, e, q ▸ d⟩ ⟨dy, lt⟩
theorem ev_cel {x p i v} (hk : X.env.scope.names.lookup (nm x) = some .cell) (hx : lk fr.cel x = some i) (hi : σ.objs[i]? = some (.cell (some v))) : HV X fr σ (eval (.Name (nm x) p) X.env) v σ :=
  .val fun w Q E S h => S.cell hi fun y c d => wpAny_Name (wpAny_loadName_cell S.kind hk (S.9 x i hx).1 c (h y w.s.toks d)) (debug_ne x)
theorem ev_fre {x p i v} (hk : X.env.scope.names.lookup (nm x) = some .free) (hx : lk fr.cel x = some i) (hi : σ.objs[i]? = some (.cell (some v))) : HV X fr σ (eval (.Name (nm x) p) X.env) v σ :=
  .val fun w Q E S h => S.cell hi fun y c d => wpAny_Name (wpAny_loadName_free S.kind hk (S.9 x i hx).1 c (h y w.s.toks d) (beq_eq_false_iff_ne.mpr (nm_ne (by decide +kernel)))) (debug_ne x)
theorem At.base (S : At X fr σ w) : X.base.StaysIn w.s.heap := fun b o e => (S.3 b o (S.17 b o e)).1
theorem At.pk (S : At X fr σ w) : PK X.G X.P := (S.2.1 X.G.pin).1
theorem At.K (S : At X fr σ w) : X.G.K.In w.s.heap := S.2.5.keeps S.base
theorem ev_glob {x p v} (hk : X.env.scope.names.lookup (nm x) = some .globalImplicit) (hx : lk X.P.globs x = some v) : HV X fr σ (eval (.Name (nm x) p) X.env) v σ :=
  .val fun w Q E S h => by
    cases S.pk.1 x v hx with
    | mk hs y d hy =>
      have q := h y w.s.toks ⟨d w.ρ, SV.still_lt hs _⟩
      refine Name_function_global S.kind hk ?_ (debug_ne x)
      have g := S.2.3 ▸ S.2.6.keeps S.base
      rcases hy with hy | hy
      · exact loadGlobal_global g hy q
      · exact loadGlobal_builtin g hy.1 (S.2.4 ▸ S.2.7.keeps S.base) hy.2 q
end
end Mine
namespace Mine
open PySem PySem.W PyProof.Rows PySem.Calls
open Builtin Builtin.ObjectAttr in
section
variable {prog : Program} {w : World} {A : Around} {E : Value → Shared → Prop} {h : Heap} {g : Array GenState} {d : Drawn} {t : Nat} {os : OsState}
variable {nm' q : PySem.Str} {C N x : Addr} {bs bm : List Value} {sn : List PySem.Str} {sub : List Value} {ab : Bool} {col : Option Bool} {dd : Option Addr} {k0 k1 k2 k3 k5 : Option Value} {B newId : String}
  {mN m : PySem.Str → Option Value} {name : PySem.Str} {v : Value}
theorem excGet_entry {o : Obj} {dx : Addr} {tk : Tok} {Q : Fin → Shared → Prop} (FB : ExcAttrBase B bm)
    (hC : h.get? C = some (excClassObj nm' q C N bs bm true sn sub ab col dd k0 k1 k2 k3 k5 newId)) (hn : h.Ns N mN) (hna : mN name = none) (hB : typeLookup (.type B) name = pure none)
    (hx : h.get? x = some o) (hc : o.cls = .ref C) (hcd : ∃ vs, o.data = .fields vs) (hd : o.dict = some dx) (hm : h.Ns1 dx m) (hv : m name = some v) (hq : Q (.done (.ret v)) ⟨h, g, d, t, os⟩) :
    wpAny (model prog w) A (Builtin.«object.__getattribute__» ⟨[.ref x, .str name tk], []⟩) Q E ⟨h, g, d, t, os⟩ := by
  repeat (any_goals (first | assumption | (with_reducible refine wpAny_loadPart_at hx ?_; rw [hc]) | (with_reducible refine wpAny_typeLookup_exc hC hn FB.mro hB ?_; rw [hna]) | wp_step))
  obtain ⟨vs, hdv⟩ := hcd
  rw [hdv]
  dsimp only
  unfold instanceDict classData
  refine wpAny_bind (wpAny_loadPart_at hx ?_)
  rw [hc, hd]
  dsimp only
  refine wpAny_bind (wpAny_bind (wpAny_loadPart_at hC ?_))
  dsimp only [excClassObj]
  refine wpAny_pure ?_
  dsimp only
  refine wpAny_pure ?_
  show wpAny _ _ (nsGet dx name) _ _ _
  refine wpAny_nsGet hm.ns ?_
  rw [hv]
  dsimp only
  refine wpAny_bind (wpAny_rule (wpAny_pure ?_))
  dsimp only
  exact wpAny_pure hq
theorem excGet_call {o : Obj} {dx : Addr} {tk : Tok} {R : Result → Shared → Prop} (FB : ExcAttrBase B bm) (T : OwnTailQ h bm bm)
    (hC : h.get? C = some (excClassObj nm' q C N bs bm true sn sub ab col dd k0 k1 k2 k3 k5 newId)) (hn : h.Ns N mN) (hna : mN name = none) (hB : typeLookup (.type B) name = pure none)
    (hx : h.get? x = some o) (hc : o.cls = .ref C) (hcd : ∃ vs, o.data = .fields vs) (hd : o.dict = some dx) (hm : h.Ns1 dx m) (hv : m name = some v) (hq : R (.ok (.ret v)) ⟨h, g, d, t, os⟩) :
    codeAny (model prog w) A (.call (.builtin "BaseException.__getattribute__") ⟨[.ref x, .str name tk], []⟩) R ⟨h, g, d, t, os⟩ :=
  codeAny_call_builtin FB.ga.plain F.entry_bexc_ga (wpAny_check_ga_own FB hC T hx hc (excGet_entry FB hC hn hna hB hx hc hcd hd hm hv hq))
theorem excGet_by {o : Obj} {dx : Addr} {tk : Tok} {fill expr : Bool} {Q : Value → Shared → Prop} (FB : ExcAttrBase B bm) (T : OwnTailQ h bm bm)
    (hC : h.get? C = some (excClassObj nm' q C N bs bm true sn sub ab col dd k0 k1 k2 k3 k5 newId)) (hn : h.Ns N mN) (hn1 : mN "__getattribute__" = none) (hn2 : mN "__getattr__" = none) (hna : mN name = none) (hB : typeLookup (.type B) name = pure none)
    (hx : h.get? x = some o) (hc : o.cls = .ref C) (hcd : ∃ vs, o.data = .fields vs) (hd : o.dict = some dx) (hm : h.Ns1 dx m) (hv : m name = some v) (hh : handedIn v = true) (hq : Q v ⟨h, g, d, t, os⟩) :
    wpAny (model prog w) A (getAttrBy (.ref x) (.str name tk) fill expr) Q E ⟨h, g, d, t, os⟩ := by
  refine wpAny_holding (wpAny_bind (wpAny_typeOf_ref hx (hc ▸ wpAny_bind (wpAny_typeLookup_exc hC hn FB.mro FB.ga.lookup ?_))))
  rw [hn1]
  have other : ¬ (onTheHeap (.ref C) && Value.builtin "BaseException.__getattribute__" == .builtin "object.__getattribute__") = true := fun z => absurd (Bool.and_eq_true_iff.mp z).2 (by decide +kernel)
  dsimp only
  rw [if_neg other]
  refine wpAny_bind (m := hookBefore _) (wpAny_typeLookup_exc hC hn FB.mro FB.noGetattr ?_)
  rw [hn2]
  refine wpAny_bind (wpAny_attempt (wpAny_holding ?_))
  unfold callGetattribute
  rw [if_neg (fun z => (nomatch (Bool.and_eq_true_iff.mp z).2) : ¬ (expr && onTheHeap (.builtin "BaseException.__getattribute__")) = true)]
  refine wpAny_bind (wpAny_of_eq (FB.ga.bind _) (wpAny_call (excGet_call FB T hC hn hna hB hx hc hcd hd hm hv ?_)))
  exact handed_on hh hq
theorem excGet {o : Obj} {dx : Addr} {expr : Bool} {Q : Value → Shared → Prop} (FB : ExcAttrBase B bm) (T : OwnTailQ h bm bm)
    (hC : h.get? C = some (excClassObj nm' q C N bs bm true sn sub ab col dd k0 k1 k2 k3 k5 newId)) (hn : h.Ns N mN) (hn1 : mN "__getattribute__" = none) (hn2 : mN "__getattr__" = none) (hna : mN name = none) (hB : typeLookup (.type B) name = pure none)
    (hx : h.get? x = some o) (hc : o.cls = .ref C) (hcd : ∃ vs, o.data = .fields vs) (hd : o.dict = some dx) (hm : h.Ns1 dx m) (hv : m name = some v) (hh : handedIn v = true) (hq : Q v ⟨h, g, d, t + 1, os⟩) :
    wpAny (model prog w) A (PySem.getAttr (.ref x) name expr) Q E ⟨h, g, d, t, os⟩ := by
  exact wpAny_bind (wpAny_mkText (excGet_by FB T hC hn hn1 hn2 hna hB hx hc hcd hd hm hv hh hq))
end
section
variable {X : Cx} {fr fr' : SFr} {σ σ' σ₁ σ₂ : SS} {w w' : Wd} {V : Val} {ρ : Nat → Addr} {G : Gl}
theorem beq_false {a b : Nat} (h : Nat.beq a b = false) : a ≠ b := Nat.ne_of_beq_eq_false h
theorem names'_small : names'.all (fun x => x.cps.toList.all (fun c => Nat.blt c 2000000)) = true := by decide +kernel
theorem names'_nodup : names'.Nodup := by decide +kernel
theorem nm_small {k : Nat} {x : PySem.Str} {n : Nat} (e : names'[k]? = some x) (q : x = ⟨#[n + 2000000]⟩) : False := by
  have := List.all_eq_true.mp names'_small x (List.mem_of_getElem? e)
  subst q
  exact absurd (Nat.le_of_ble_eq_true (an_bool this).1) (Nat.not_lt.mpr (Nat.le_add_left _ _))
theorem nm_inj {i j : Nat} (h : nm i = nm j) : i = j := by
  unfold nm at h
  rw [List.getD_eq_getElem?_getD, List.getD_eq_getElem?_getD] at h
  cases ei : names'[i]? with
  | some x =>
    cases ej : names'[j]? with
    | some y =>
      rw [ei, ej] at h
      exact (List.getElem?_inj (List.getElem?_eq_some_iff.mp ei).1 names'_nodup).mp ((ei.trans (congrArg some h)).trans ej.symm)
    | none => rw [ei, ej] at h; exact (nm_small ei h).elim
  | none =>
    cases ej : names'[j]? with
    | some y => rw [ei, ej] at h; exact (nm_small ej h.symm).elim
    | none => rw [ei, ej] at h; injection h with h; exact Nat.add_right_cancel (List.head_eq_of_cons_eq (congrArg Array.toList h))
theorem beq_nm (a b : Nat) : decide (nm a = nm b) = Nat.beq a b := by
  cases q : Nat.beq a b with
  | true => exact decide_eq_true (congrArg nm (Nat.eq_of_beq_eq_true q))
  | false => exact decide_eq_false fun z => beq_false q (nm_inj z)
theorem valueAt_of {es : List (Nat × SV)} {kvs : List (PySem.Str × Value)} (h : All2 (EN V ρ) es kvs) (a : Nat) : LkAt V ρ (lk es a) (valueAt kvs (nm a)) := by
  induction h with
  | nil => rfl
  | @cons e kv es kvs h1 _ ih =>
    have k : decide (kv.1 = nm a) = Nat.beq e.1 a := h1.1 ▸ beq_nm e.1 a
    have e1 : valueAt (kv :: kvs) (nm a) = cond (Nat.beq e.1 a) (some kv.2) (valueAt kvs (nm a)) := by
      unfold valueAt
      rw [List.find?_cons, k]
      cases Nat.beq e.1 a <;> rfl
    rw [e1]
    show LkAt V ρ (cond (Nat.beq e.1 a) (some e.2) (lk es a)) _
    cases Nat.beq e.1 a with
    | true => exact ⟨_, rfl, h1.2⟩
    | false => exact ih
theorem getL_of {es : List DictEntry} {kvs : List (PySem.Str × Value)} (h : Pairs (strKind G.prog G.w) es kvs) (x : PySem.Str) : getL x es = some (valueAt kvs x) := by
  induction h with
  | nil => rfl
  | @cons e kv es kvs h1 h2 _ ih =>
    obtain ⟨t, ht⟩ := Value.isStrOf_shape h1
    unfold getL valueAt at *
    have hs : e.key.isStr x = decide (kv.1 = x) := by rw [ht]; rfl
    have hr : e.refKey = false := by unfold DictEntry.refKey; rw [ht]
    rw [List.find?_cons, hs, List.find?_cons, List.any_cons, hr, Bool.false_or]
    cases decide (kv.1 = x) with
    | true => exact congrArg (fun z => some (some z)) h2
    | false => exact ih
theorem blts_handed : blts.all (fun e => handedIn e.2) = true := by decide +kernel
theorem den_handed {v : SV} {y : Value} (h : Den V ρ v y) : handedIn y = true := by
  cases v with
  | int i => obtain ⟨t, rfl⟩ := h; rfl
  | sint i => obtain ⟨t, rfl⟩ := h; rfl
  | str i => obtain ⟨t, rfl⟩ := h; rfl
  | sstr i => obtain ⟨t, rfl⟩ := h; rfl
  | opq j => exact h
  | blt n =>
    refine (congrArg handedIn h).trans ?_
    unfold bltV
    cases q : lk blts n with
    | none => rfl
    | some x => exact List.all_eq_true.mp blts_handed _ (lk_mem q)
  | _ => exact congrArg handedIn h
inductive InstOf (X : Cx) (w : Wd) (i C d n : Nat) (es : List (Nat × SV)) : Prop | mk (des : List DictEntry) (ep : Nat) (kvs : List (PySem.Str × Value)) (I : InstAt w.s.heap (w.ρ i) (instObj C (w.ρ d)) C (some (dictOf des ep))) (e : w.s.heap.get? (w.ρ d) = some (dictOf des ep))
  (p : Pairs (strKind X.G.prog X.G.w) des kvs) (k : KeysOf (strKind X.G.prog X.G.w) des.toArray) (nd : (kvs.map (·.1)).Nodup) (r : All2 (EN X.G.V w.ρ) es kvs) (lt : ∀ e ∈ es, e.2.lt n)
theorem At.at_ (S : At X fr σ w) {i : Nat} {so : SObj} (h : σ.objs[i]? = some so) {C : Prop} (k : ∀ o, w.s.heap.get? (w.ρ i) = some o → OD X.G w.ρ so o → C) : C := by
  cases S.1 i _ h with | mk oi _ _ => cases oi with | mk o e d _ => exact k o e d
theorem At.ltO (S : At X fr σ w) {i : Nat} {so : SObj} (h : σ.objs[i]? = some so) : so.lt σ.objs.length := (S.1 i _ h).3
theorem inst_of (S : At X fr σ w) {i C d : Nat} {es : List (Nat × SV)} (hi : σ.objs[i]? = some (.inst C d)) (hd : σ.objs[d]? = some (.dict es)) : InstOf X w i C d σ.objs.length es :=
  S.at_ hi fun o e x => S.at_ hd fun o' e' y => by
    cases y with | mk kvs D r => cases D with | mk des ep k p nd => exact .mk des ep kvs ⟨e.trans (congrArg some x), rfl, rfl, e'⟩ e' p k nd r (S.ltO hd)
theorem LkAt.some {v : SV} {x : Option SV} {y : Option Value} (h : LkAt V ρ x y) (e : x = some v) {C : Prop} (k : ∀ z, y = Option.some z → Den V ρ v z → C) : C := by
  subst e
  obtain ⟨z, q, d⟩ := h
  exact k z q d
theorem LkAt.none {x : Option SV} {y : Option Value} (h : LkAt V ρ x y) (e : x = Option.none) : y = Option.none := by subst e; exact h
theorem lk_what : typeLookup (.type "Exception") (nm n_what) = pure none := by rw [typeLookup_type, builtinLookup_eq_fast]; kernel_rfl
theorem lk_who : typeLookup (.type "Exception") (nm n_who) = pure none := by rw [typeLookup_type, builtinLookup_eq_fast]; kernel_rfl
theorem lk_own {a : Nat} (h : (Nat.beq a n_who || Nat.beq a n_what) = true) : typeLookup (.type "Exception") (nm a) = pure none := by
  rcases Bool.or_eq_true_iff.mp h with q | q
  · rw [Nat.eq_of_beq_eq_true q]; exact lk_who
  · rw [Nat.eq_of_beq_eq_true q]; exact lk_what
theorem own_in {a : Nat} (h : (Nat.beq a n_who || Nat.beq a n_what) = true) : nm a ∈ (["__setattr__", "__getattribute__", "__getattr__", nm n_who, nm n_what] : List PySem.Str) := by
  rcases Bool.or_eq_true_iff.mp h with q | q
  · rw [Nat.eq_of_beq_eq_true q]; exact .tail _ (.tail _ (.tail _ (.head _)))
  · rw [Nat.eq_of_beq_eq_true q]; exact .tail _ (.tail _ (.tail _ (.tail _ (.head _))))
noncomputable def GA (X : Cx) (fr : SFr) (σ : SS) (o : SV) (a : Nat) (v : SV) : Prop := ∀ (w : Wd) (x : Value) (expr : Bool) (Q : Value → Shared → Prop) (E : Value → Shared → Prop), At X fr σ w → Den X.G.V w.ρ o x → (∀ y t, DV X.G.V σ.objs.length v w.ρ y → Q y { w.s with toks := t }) → wpAny X.M X.A (PySem.getAttr x (nm a) expr) Q E w.s
theorem At.cls (S : At X fr σ w) {C : Nat} {l : List (Nat × CA)} (h : lk X.P.classes C = some l) : ClsOK X.G C l := S.pk.2 C l h
theorem ga_own {i C d a : Nat} {es : List (Nat × SV)} {l : List (Nat × CA)} {v : SV} (ha : a < nAttr) (hi : σ.objs[i]? = some (.inst C d)) (hd : σ.objs[d]? = some (.dict es)) (hl : lk X.P.classes C = some l) (hv : lk es a = some v) (hc : lk l a = none ∨ ∃ u, lk l a = some (.val u)) : GA X fr σ (.ref i) a v := fun w x expr Q E S hx h => by
  cases hx
  cases inst_of S hi hd with
  | mk des ep kvs I e p k nd r lt =>
    have K := S.cls hl
    refine (valueAt_of r a).some hv fun y hy dy => ?_
    have hf : ∃ attr, findIn X.G.K (.ref C) (nm a) = some attr ∧ noGet X.G.K attr = true := by
      rcases hc with q | ⟨u, q⟩
      · exact ⟨none, (K.12 a ha).no q, rfl⟩
      · cases (K.12 a ha).val q with | mk _ z _ f g => exact ⟨some z, f, beq_iff_eq.mpr g⟩
    obtain ⟨attr, f, n⟩ := hf
    exact get_value S.K I K.1 (findObj_own K.3 f n ((lookIn_dict (nm a) des ep).trans ((getL_of p _).trans (congrArg some hy)))) (den_handed dy) (h y _ ⟨dy, lt _ (lk_mem hv)⟩)
theorem getAttr_ok {o : SV} {a : Nat} (ha : a < nAttr) : Ok (getAttr X.P σ o a) (GA X fr σ o a) := by
  cases o with
  | ref i =>
    refine .on fun so hi => ?_
    cases so with
    | inst C d =>
      refine .bind fun l hl => .onD fun es hd => .opt (fun hn v hv => ga_own ha hi hd hl hv (.inl hn)) fun c hc => ?_
      cases c with
      | val u =>
        refine .opt (fun hn => .ret fun w x expr Q E S hx h => ?_) fun v hv => .ret (ga_own ha hi hd hl hv (.inr ⟨u, hc⟩))
        cases hx
        cases inst_of S hi hd with
        | mk des ep kvs I e p k nd r lt =>
          have K := S.cls hl
          cases (K.12 a ha).val hc with | mk s z d f g hh => exact get_value S.K I K.1 (findObj_cls K.3 f g hh (S.pk.3 a ha) ((lookIn_dict (nm a) des ep).trans ((getL_of p _).trans (congrArg some ((valueAt_of r a).none hn))))) hh (h z _ ⟨d w.ρ, SV.still_lt s _⟩)
      | _ => exact .nil
    | exc C d =>
      refine .onE fun es hd => .wh fun hb v hv w x expr Q E S hx h => ?_
      have b1 := an_bool hb
      have b2 := an_bool b1.2
      cases hx
      cases Nat.eq_of_beq_eq_true b1.1
      refine S.at_ hi fun ob e D => S.at_ hd fun od ed N => ?_
      cases D with | mk vs c dd dt _ _ _ => cases N with
      | mk m des ep dn kk u f g _ =>
        have dd' : ob.dict = some (w.ρ d) := by rw [dd]; cases d with | zero => exact absurd b2.1 (by decide) | succ d => rfl
        refine (g a).some hv fun y hy dy => ?_
        cases S.pk.4 _ S.K with
        | mk nm' q N bs sn sub ab col dd2 k0 k1 k2 k3 k5 mN e1 n1 i1 no f1 =>
          exact excGet PySem.F.attrBase_Exception .base e1 n1 (no _ (.tail _ (.head _))) (no _ (.tail _ (.tail _ (.head _)))) (no _ (own_in b2.2)) (lk_own b2.2) e c ⟨vs, dt⟩ dd' ⟨od, des, ep, ed, dn, kk, u, f⟩ hy (den_handed dy) (h y _ ⟨dy, S.ltO hd _ (lk_mem hv)⟩)
    | _ => exact .nil
  | top C =>
    refine .bind fun l hl => .bind fun c hc => ?_
    cases c with
    | val u =>
      refine .ret fun w x expr Q E S hx h => ?_
      cases hx
      cases ((S.cls hl).12 a ha).val hc with | mk s z d f g hh t r c => exact cls_value S.K r c hh (h z _ ⟨d w.ρ, SV.still_lt s _⟩)
    | _ => exact .nil
  | _ => exact .nil
theorem pl_base {e : Expr} {a : PySem.Str} {env : Env} {t : Sem Value} (h : plB e = true) : attributeBase e a env t = t := by
  cases e with
  | Call f args ks p => cases f with
    | Name s q =>
      have ne : s ≠ "super" := fun z => by
        have h2 : (!decide (s = "super")) = true := (an_bool (an_bool h).2).2
        rw [decide_eq_true z] at h2; cases h2
      cases args with
      | cons => rfl
      | nil => cases ks with
        | cons => rfl
        | nil => exact if_pos (by rw [bne_iff_ne.mpr ne]; rfl)
    | _ => rfl
  | _ => rfl
theorem ev_attr {e a p o v} (ha : a < nAttr) (m : plB e = true) (H : HV X fr σ (eval e X.env) o σ₁) (g : GA X fr σ₁ o a v) : HV X fr σ (eval (.Attribute e (nm a) p) X.env) v σ₁ :=
  ⟨H.1, trivial, fun w Q E _ S k => by
    rw [arm_eval_Attribute, pl_base m]
    refine wpAny_bind (H.3 w _ _ trivial S fun w1 x1 S1 y d => ?_)
    exact wpAny_bind (wpAny_standAt (wpAny_bind (wpAny_holding (g w1 y _ _ _ S1 d.1 fun z t dz => wpAny_bind (wpAny_letTemporaryGo (wpAny_pure (k _ (x1.trans H.1.1 .hp) (toks S1 t) z dz)))))))⟩
end
end Mine
namespace Mine
open PySem PySem.W PyProof.Rows PySem.Calls
inductive EnvOK (c : CK) (X : Cx) : Prop | mk (sc : X.env.scope = c.sc) (qual : X.env.qual = c.qual) (code : ∀ a, c.code = some a → X.env.code = .ref a) (top : c.cmp = false → X.env.locals = X.L ∧ X.lm = none)
noncomputable def EvR (X : Cx) (I : In) (n : Nat) (c : CK) : Prop := ∀ (e : IE) (x : Expr) (fr : SFr) (σ : SS), (ckE X.P n c e x).den X.G → Ok2 (I.ev e X.hd fr σ) fun r σ' => VT X fr σ (eval x X.env) r σ'
section
variable {X : Cx} {I : In} {c : CK} {N : Nat} {fr fr' : SFr} {σ σ' σ₁ σ₂ : SS} {w w' : Wd} {V : Val} {ρ : Nat → Addr} {G : Gl} {P : PT}
theorem ck_pl {n : Nat} {e : IE} {x : Expr} (h : (ckE P n c e x).den G) : An (plB x = true) (plT x = ieT e) := by
  cases n with
  | zero => exact h.elim
  | succ n => exact ⟨h.1, beq_iff_eq.mp h.2.1⟩
theorem ckEs_cons {rE : CK → IE → Expr → Fo} {e : IE} {l : List IE} {m : List Expr} {C : List Expr → Prop} (h : (ckEs rE c (e :: l) m).den G) (k : ∀ x xs, (rE c e x).den G → (ckEs rE c l xs).den G → C (x :: xs)) : C m :=
  bnE h fun q e h => un_of e ▸ k q.1 q.2 h.1 h.2
theorem ckEs_nil {rE : CK → IE → Expr → Fo} {m : List Expr} (h : (ckEs rE c [] m).den G) : m = [] := emp_of h.1
theorem ckEs_len {rE : CK → IE → Expr → Fo} {l : List IE} : ∀ {m : List Expr}, (ckEs rE c l m).den G → l.length = m.length := by
  induction l with
  | nil => exact fun h => (congrArg List.length (ckEs_nil h)).symm
  | cons e l ih => exact fun h => ckEs_cons (C := fun m => _ = m.length) h fun x xs _ t => congrArg Nat.succ (ih t)
inductive ListAt (X : Cx) (w : Wd) (i n : Nat) (xs : List SV) : Prop | mk (vs : List Value) (m : Nat) (e : w.s.heap.get? (w.ρ i) = some (listOf (List.toArray vs) m)) (l : w.s.heap.IsList (w.ρ i) (List.toArray vs)) (r : DVs X.G.V n xs w.ρ vs)
theorem At.list (S : At X fr σ w) {i : Nat} {xs : List SV} (h : σ.objs[i]? = some (.list xs)) : ListAt X w i σ.objs.length xs := S.at_ h fun o e d => by
  cases d with | mk vs m r => exact .mk vs m e ⟨_, e, rfl, m, rfl⟩ ⟨r, S.ltO h⟩
theorem ivalE {k : SV} {x : Int} {C : SV → Int → Prop} (h : ival V k = some x) (a : ∀ i, C (.int i) i) (b : ∀ j, C (.sint j) (V.int j)) : C k x := by
  cases k with
  | int i => exact Option.some.inj h ▸ a i
  | sint j => exact Option.some.inj h ▸ b j
  | _ => cases h
theorem svalE {k : SV} {x : PySem.Str} {C : SV → PySem.Str → Prop} (h : sval V k = some x) (a : ∀ i, C (.str i) (nm i)) (b : ∀ j, C (.sstr j) (V.str j)) : C k x := by
  cases k with
  | str i => exact Option.some.inj h ▸ a i
  | sstr j => exact Option.some.inj h ▸ b j
  | _ => cases h
theorem ival_den {k : SV} {x : Int} {y : Value} (h : ival V k = some x) : Den V ρ k y → ∃ t, y = .int x t := ivalE (C := fun k x => Den V ρ k y → ∃ t, y = .int x t) h (fun _ d => d) fun _ d => d
theorem sval_den {k : SV} {x : PySem.Str} {y : Value} (h : sval V k = some x) : Den V ρ k y → ∃ t, y = .str x t := svalE (C := fun k x => Den V ρ k y → ∃ t, y = .str x t) h (fun _ d => d) fun _ d => d
theorem ival_of {k : SV} {x : Int} {n : Nat} (h : ival V k = some x) (t : Tok) : DV V n k ρ (.int x t) := ivalE (C := fun k x => DV V n k ρ (.int x t)) h (fun _ => ⟨⟨t, rfl⟩, trivial⟩) fun _ => ⟨⟨t, rfl⟩, trivial⟩
theorem sval_of {k : SV} {x : PySem.Str} {n : Nat} (h : sval V k = some x) (t : Tok) : DV V n k ρ (.str x t) := svalE (C := fun k x => DV V n k ρ (.str x t)) h (fun _ => ⟨⟨t, rfl⟩, trivial⟩) fun _ => ⟨⟨t, rfl⟩, trivial⟩
theorem At.row (S : At X fr σ w) {r : Row} (h : r ∈ σ.rows) : An (RowOK X.G.V w.ρ r) (r.lt σ.objs.length) := S.13 r h
theorem rowLget_mem {l : Nat} {k : SV} {rs : List Row} : Ok (rowLget l k rs) fun r => .lget l k r ∈ rs := .row fun r hr => by
  cases r with
  | lget l' k' r => exact .wh fun h => .ret (Nat.eq_of_beq_eq_true (an_bool h).1 ▸ SV.eqb_of (an_bool h).2 ▸ hr)
  | _ => exact .nil
theorem atD {xs : List SV} {vs : List Value} {n : Nat} (h : DVs V n xs ρ vs) {i : Nat} {v : SV} (e : xs[i]? = some v) {C : Prop} (k : ∀ y, vs[i]? = some y → DV V n v ρ y → C) : C := by
  obtain ⟨y, q, d⟩ := h.1.get e
  exact k y q ⟨d, h.2 v (List.mem_of_getElem? e)⟩
theorem At.dict (S : At X fr σ w) {i : Nat} {es : List (Nat × SV)} (h : σ.objs[i]? = some (.dict es)) {C : Prop} (k : ∀ kvs, w.s.heap.DictOf (strKind X.G.prog X.G.w) (w.ρ i) kvs → All2 (EN X.G.V w.ρ) es kvs → C) : C := S.at_ h fun o e d => by
  cases d with | mk kvs D r => cases D with | mk des ep kk p nd => exact k kvs ⟨_, des.toArray, ep, e, ⟨rfl, rfl, rfl⟩, rfl, kk, p, nd⟩ r
theorem At.adict (S : At X fr σ w) {i j : Nat} (h : σ.objs[i]? = some (.adict j)) {C : Prop} (k : ∀ kvs, w.s.heap.DictOf (intKind X.G.prog X.G.w) (w.ρ i) kvs → AD X.G j (dictOf [] 0) ∨ All2 (fun (e : Int × PySem.Str) (kv : Int × Value) => An (kv.1 = e.1) (∃ t, kv.2 = .str e.2 t)) (X.G.V.dic j) kvs → kvs ≠ [] → kvs.length ≤ 60 → C) : C := S.at_ h fun o e d => by
  cases d with | mk kvs D r ne le => cases D with | mk des ep kk p nd => exact k kvs ⟨_, des.toArray, ep, e, ⟨rfl, rfl, rfl⟩, rfl, kk, p, nd⟩ (.inr r) ne le
theorem At.dictType (S : At X fr σ w) {i : Nat} {kvs : List (PySem.Str × Value)} (h : w.s.heap.DictOf (strKind X.G.prog X.G.w) (w.ρ i) kvs) : w.s.TypeIs (.ref (w.ρ i)) "dict" := by
  obtain ⟨o, _, _, e, x, _⟩ := h
  exact ⟨o, e, x.1⟩
noncomputable def GI (X : Cx) (fr : SFr) (σ : SS) (o k v : SV) : Prop := ∀ (w : Wd) (x y : Value) (Q : Value → Shared → Prop) (E : Value → Shared → Prop), At X fr σ w → Den X.G.V w.ρ o x → Den X.G.V w.ρ k y → (∀ y t, DV X.G.V σ.objs.length v w.ρ y → Q y { w.s with toks := t }) → ItemOn X.M X.A E x y Q w.s
theorem getItem_ok {o k : SV} : Ok (getItem σ o k) (GI X fr σ o k) := .onR fun i ho => .on fun so hi => by
  cases ho
  cases so with
  | list xs =>
    cases k with
    | int n =>
      cases n with
      | ofNat n =>
        refine .wh fun hn v hv w x y Q E S hx hy h => ?_
        cases hx
        obtain ⟨t, rfl⟩ := hy
        cases S.list hi with
        | mk vs m e l r => exact atD r hv fun z hz d => ⟨"list", _, list_getitem_lookup, l.typeIs, wpAny_getItem_list (x := z) l (Int.natCast_nonneg n) (Int.lt_of_lt_of_le (Int.ofNat_lt.mpr (Nat.le_of_ble_eq_true hn)) (by decide)) (List.getElem?_toArray.trans hz) (h z w.s.toks d)⟩
      | negSucc => exact .nil
    | _ => exact .nil
  | dict es =>
    refine .onS fun n hn v hv w x y Q E S hx hy h => ?_
    cases hn
    cases hx
    obtain ⟨t, rfl⟩ := hy
    exact S.dict hi fun kvs D r => (valueAt_of r n).some hv fun z hz d => ⟨"dict", _, slot_dict_getitem.lookup, S.dictType D, wpAny_getItem_of (knd := strKind X.G.prog X.G.w) (k := nm n) (decide_eq_true rfl) D.mapOf hz (h z _ ⟨d, S.ltO hi _ (lk_mem hv)⟩)⟩
  | alist l =>
    refine rowLget_mem.mono fun v hr w x y Q E S hx hy h => ?_
    cases hx
    have R := S.row hr
    cases R.1 with
    | mk n z hk lx e d =>
      obtain ⟨t, rfl⟩ := ival_den hk hy
      exact S.at_ hi fun ob eo D => by
        obtain ⟨m, rfl⟩ := D
        have l : w.s.heap.IsList (w.ρ i) (List.toArray (X.G.V.lst l)) := ⟨_, eo, rfl, m, rfl⟩
        exact ⟨"list", _, list_getitem_lookup, l.typeIs, wpAny_getItem_list (x := z) l (Int.natCast_nonneg n) (Int.lt_of_lt_of_le (Int.ofNat_lt.mpr lx) (by decide)) (List.getElem?_toArray.trans e) (h z w.s.toks ⟨d, R.2⟩)⟩
  | _ => exact .nil
theorem pl_slice {e : Expr} (h : plB e = true) {o k : Value} : subscripted e false o k = operate [o, k] (PySem.getItem o k) := by
  cases e with
  | Slice l u s p => exact absurd h (by cases l <;> cases u <;> cases s <;> exact (nomatch ·))
  | _ => rfl
theorem ev_sub {e ei p o k v} (m : plB ei = true) (H : HV X fr σ (eval e X.env) o σ₁) (H2 : HV X fr σ₁ (eval ei X.env) k σ₂) (g : GI X fr σ₂ o k v) : HV X fr σ (eval (.Subscript e ei p) X.env) v σ₂ :=
  ⟨H.1.trans H2.1, trivial, fun w Q E _ S kk => by
    rw [arm_eval_Subscript]
    refine wpAny_bind (H.3 w _ _ trivial S fun w1 x1 S1 x d1 => wpAny_bind (wpAny_holding (H2.3 w1 _ _ trivial S1 fun w2 x2 S2 y d2 => wpAny_bind (wpAny_standAt ?_))))
    obtain ⟨T, id, hl, hT, hg⟩ := g w2 x y (fun y s' => wpAny X.M X.A (letTemporaryGo e x y >>= fun _ => pure y) Q E s') E S2 (d1.ext x2.1 H2.1.1).1 d2.1 fun z t dz => wpAny_bind (wpAny_letTemporaryGo (wpAny_pure (kk _ ((x1.trans H.1.1 x2).trans (H.1.trans H2.1).1 .hp) (toks S2 t) z dz)))
    refine wpAny_bind ?_
    rw [getitemInPython_of_ne hT.not_modules]
    refine wpAny_bind (wpAny_specialOf hT hl ?_)
    have fin : wpAny X.M X.A (subscripted ei false x y) (fun r s₃ => wpAny X.M X.A (letTemporaryGo e x r >>= fun _ => pure r) Q E s₃) E w2.s := by
      rw [pl_slice m]; exact wpAny_operating hg
    first
      | exact wpAny_pure (wpAny_bind fin)
      | exact wpAny_bind (wpAny_pure (wpAny_bind fin))
      | exact wpAny_bind fin⟩
theorem pl_star {e : Expr} {es : List Expr} {env : Env} (h : plB e = true) : starEach (e :: es) env = (false, eval e env) :: starEach es env := by
  cases e with
  | Starred => cases h
  | _ => rfl
abbrev HVs (X : Cx) (fr : SFr) (σ : SS) (t : Sem (List Value)) (vs : List SV) (σ' : SS) : Prop := T3 X fr σ t fr σ' (.val (DVs X.G.V σ'.objs.length vs))
theorem evs_ok (H : EvR X I N c) {l : List IE} {pos : Pos} : ∀ {m : List Expr} {σ : SS}, (ckEs (ckE X.P N) c l m).den X.G → Ok2 (evs I X.hd fr l σ) fun vs σ' => HVs X fr σ (spliced (backTo pos (starEach m X.env))) vs σ' := by
  induction l with
  | nil =>
    intro m σ h
    rw [ckEs_nil h]
    exact .ret ⟨.refl _, trivial, fun w Q E _ S k => spliced_none (k w (.refl ..) S [] ⟨.nil, nil_all⟩)⟩
  | cons e l ih =>
    intro m σ h
    refine ckEs_cons (C := fun m => Ok2 (okE (I.ev e X.hd fr σ) fun v σ => b2 (evs I X.hd fr l σ) fun vs σ => some (v :: vs, σ)) fun vs σ' => HVs X fr σ (spliced (backTo pos (starEach m X.env))) vs σ') h fun x xs h1 h2 => .okE (H e x fr σ h1) fun v σ1 A => .b2 (ih h2) fun vs σ2 B => .ret ?_
    exact ⟨A.1.trans B.1, trivial, fun w Q E _ S k => spliced_more (A.3 w _ _ trivial S fun w1 x1 S1 y d => B.3 w1 _ _ trivial S1 fun w2 x2 S2 ys ds =>
      k w2 (x1.trans A.1.1 x2) S2 (y :: ys) ⟨.cons (d.ext x2.1 B.1.1).1 ds.1, fun z hz => (List.mem_cons.mp hz).elim (fun q => q.symm ▸ SV.lt_le B.1.1 d.2) (ds.2 z)⟩) (pl_star (ck_pl h1).1)⟩
theorem size_1000 : 1000 ≤ sizeLine := by decide +kernel
theorem small_len {xs : List SV} (h : small xs = true) : xs.length ≤ sizeLine := Nat.le_trans (Nat.le_of_ble_eq_true h) size_1000
theorem ev_list {es p vs} (H : HVs X fr σ (spliced (backTo p (starEach es X.env))) vs σ₁) (hn : small vs = true) : HV X fr σ (eval (.List es p) X.env) (.ref σ₁.objs.length) (σ₁.new (.list vs)) :=
  ⟨H.1.trans .new, trivial, fun w Q E _ S k => wpAny_List_spliced (H.3 w _ _ trivial S fun w1 x1 S1 ys d => ⟨d.1.length ▸ small_len hn,
    newQ k x1 H.1.1 (new S1 (fun b o e => Heap.get?_push_of_some _ e) none_size (Heap.get?_push_size _ rfl) (.mk ys _ d.1) trivial d.2)⟩)⟩
theorem ev_tup {es k p vs} (H : HVs X fr σ (spliced (backTo p (starEach es X.env))) vs σ₁) (hn : small vs = true) : HV X fr σ (eval (.Tuple es k p) X.env) (.ref σ₁.objs.length) (σ₁.new (.tup vs)) :=
  ⟨H.1.trans .new, trivial, fun w Q E _ S k => wpAny_Tuple_spliced (H.3 w _ _ trivial S fun w1 x1 S1 ys d => ⟨d.1.length ▸ small_len hn,
    newQ k x1 H.1.1 (new S1 (fun b o e => Heap.get?_push_of_some _ e) none_size (Heap.get?_push_size _ rfl) (.mk ys _ d.1) trivial d.2)⟩)⟩
end
end Mine
namespace Mine
open PySem PySem.W PyProof.Rows PySem.Calls
noncomputable def KpOK (M : Model) (y : Value) (h : Heap) : Prop := ∃ k, (k = Keeper.frame ∨ k = Keeper.machine ∨ k = Keeper.boundFrame) ∧ Looks M h (keeperOf y) k
noncomputable def EKw (V : Val) (ρ : Nat → Addr) (e : Nat × SV) (kv : PySem.Str × Value) : Prop := An (kv.1 = nm e.1) (Den V ρ e.2 kv.2)
noncomputable def KWs (V : Val) (n : Nat) (kws : List (Nat × SV)) (ρ : Nat → Addr) (ws : List (PySem.Str × Value)) : Prop := An (All2 (EN V ρ) kws ws) (∀ e ∈ kws, e.2.lt n)
inductive CW (X : Cx) (fr : SFr) (σ : SS) (fv : SV) (args : List SV) (kws : List (Nat × SV)) (r : Rs) (σ' : SS) : Prop | mk (le : σ.Le σ') (is : (rO X σ' r).is σ') (kp : ∀ w y, At X fr σ w → DV X.G.V σ.objs.length fv w.ρ y → KpOK X.M y w.s.heap)
  (ok : ∀ (w : Wd) y ys ws (Q : Value → Shared → Prop) (E : Value → Shared → Prop), At X fr σ w → DV X.G.V σ.objs.length fv w.ρ y → DVs X.G.V σ.objs.length args w.ρ ys → KWs X.G.V σ.objs.length kws w.ρ ws →
    (∀ w', Ex X.outer σ.objs.length w w' → At X fr σ' w' → (rO X σ' r).post Q E w') → wpAny X.M X.A (PySem.call y ys ws) Q E w.s)
noncomputable def resO (R : Result → Shared → Prop) (v : Value) (s : Shared) : Prop := R (.ok (.ret v)) s
noncomputable def resE (R : Result → Shared → Prop) (v : Value) (s : Shared) : Prop := R (.error v) s
inductive CT (X : Cx) (fr : SFr) (σ : SS) (fv : SV) (args : List SV) (kws : List (Nat × SV)) (r : Rs) (σ' : SS) : Prop | mk (le : σ.Le σ') (is : (rO X σ' r).is σ') (kp : ∀ w y, At X fr σ w → DV X.G.V σ.objs.length fv w.ρ y → KpOK X.M y w.s.heap)
  (ok : ∀ (w : Wd) y ys ws (R : Result → Shared → Prop), At X fr σ w → DV X.G.V σ.objs.length fv w.ρ y → DVs X.G.V σ.objs.length args w.ρ ys → KWs X.G.V σ.objs.length kws w.ρ ws →
    (∀ w', Ex X.outer σ.objs.length w w' → At X fr σ' w' → (rO X σ' r).post (resO R) (resE R) w') → codeAny X.M X.A (.call y ⟨ys, ws⟩) R w.s)
noncomputable def isB {α : Type} (c : α) (_ : Nat → Addr) (v : α) : Prop := v = c
noncomputable def fO (X : Cx) (σ : SS) (fl : Fl) : Oc Flow := match fl with
  | .next => .val (isB .next)
  | .ret v => .val fun ρ f => ∃ y, f = .ret y ∧ DV X.G.V σ.objs.length v ρ y
  | .exc e => .exc e
abbrev BT (X : Cx) (fr : SFr) (σ : SS) (t : Sem Bool) (b : Bool) (σ' : SS) : Prop := T3 X fr σ t fr σ' (.val (isB b))
abbrev XT (X : Cx) (fr : SFr) (σ : SS) (t : Sem Flow) (fl : Fl) (fr' : SFr) (σ' : SS) : Prop := T3 X fr σ t fr' σ' (fO X σ' fl)
noncomputable def TsR (X : Cx) (I : In) (n : Nat) (c : CK) : Prop := ∀ (e : IE) (x : Expr) (fr : SFr) (σ : SS), (ckE X.P n c e x).den X.G → Ok2 (I.tst e X.hd fr σ) fun b σ' => BT X fr σ (isTrue x X.env (eval x X.env)) b σ'
noncomputable def CaR (X : Cx) (I : In) : Prop := ∀ (fv : SV) (args : List SV) (kws : List (Nat × SV)) (fr : SFr) (σ : SS), Ok2 (I.call fv args kws X.hd σ) fun r σ' => CW X fr σ fv args kws r σ'
noncomputable def CtR (X : Cx) (I : In) : Prop := ∀ (a : Nat) (args : List SV) (kws : List (Nat × SV)) (fr : SFr) (σ : SS), Ok2 (I.call (.top a) args kws X.hd σ) fun r σ' => CT X fr σ (.top a) args kws r σ'
noncomputable def ExR (X : Cx) (I : In) (n : Nat) (c : CK) : Prop := ∀ (s : IS) (x : Stmt) (fr : SFr) (σ : SS), (ckS X.P n c s x).den X.G → Ok3 (I.exec s X.hd fr σ) fun fl fr' σ' => XT X fr σ (PySem.exec x X.env) fl fr' σ'
inductive Clm (k : Nat) (X : Cx) : Prop | mk (ev : ∀ n c, EnvOK c X → EvR X (run X.P k) n c) (ts : ∀ n c, EnvOK c X → TsR X (run X.P k) n c) (ca : CaR X (run X.P k)) (ct : CtR X (run X.P k)) (ex : ∀ n c, EnvOK c X → c.cmp = false → X.env = X.fenv → ExR X (run X.P k) n c)
noncomputable def Hy (X : Cx) : Prop := ∀ o, Hyp (X.G.withPin o) X.P
noncomputable def fu (k : Nat) : Nat := 2 * k
noncomputable def Cs (k : Nat) : Prop := ∀ X : Cx, Hy X → fu k ≤ X.n → Clm k X
@[reducible] noncomputable def Cx.ar (X : Cx) (A : Around) : Cx := { X with A := A, n := X.n - 1 }
section
variable {X : Cx} {I : In} {c : CK} {N : Nat} {fr fr' : SFr} {σ σ' σ₁ σ₂ σ₃ : SS} {w w' : Wd} {V : Val} {ρ : Nat → Addr} {G : Gl} {P : PT}
theorem At.hyp (S : At X fr σ w) : Hyp X.G X.P := S.2.1 X.G.pin
theorem n_ar {a b n m c l : Nat} (h : 1 ≤ n) (h2 : a ≤ b + c) (u : b + c * n + m ≤ l) : a + c * (n - 1) + m ≤ l := by
  obtain ⟨k, rfl⟩ := Nat.exists_eq_add_of_le' h
  refine Nat.le_trans (Nat.add_le_add_right (Nat.add_le_add_right h2 _) _) (Nat.le_trans (Nat.le_of_eq ?_) u)
  rw [Nat.add_sub_cancel, Nat.mul_succ, Nat.add_assoc b c, Nat.add_comm c]
theorem Fs.ar {A : Around} (F : Fs X) (h : 1 ≤ X.n) (h1 : A.frames = X.A.frames) (h2 : A.depth ≤ X.A.depth + 1) (h3 : A.units ≤ X.A.units + 8) (h4 : A.handled = X.A.handled) : Fs (X.ar A) :=
  .mk F.1 F.2 F.3 F.4 F.5 F.6 F.7 F.8 F.9 (h1.trans F.10) F.11 F.12 F.13 F.14 (by have := n_ar (m := 0) h h2 (Nat.le_trans (Nat.le_of_eq (by rw [Nat.one_mul]; rfl)) F.15); rwa [Nat.one_mul] at this) (n_ar (m := 65) h h3 F.16) F.17 fun e => h4.trans (F.18 e)
theorem At.arnd {A : Around} (S : At X fr σ w) (h : 1 ≤ X.n) (h1 : A.frames = X.A.frames) (h2 : A.depth ≤ X.A.depth + 1) (h3 : A.units ≤ X.A.units + 8) (h4 : A.handled = X.A.handled) : At (X.ar A) fr σ w :=
  .mk (fun i so e => have o := S.1 i so e; ⟨o.1, o.2, o.3⟩) (S.2.ar h h1 h2 h3 h4) S.3 S.4 S.5 S.6 S.7 S.8 S.9 S.10 S.11 S.12 S.13 (fun e he => have d := S.14 e he; ⟨d.1, h4.trans d.2, d.3⟩) S.15 S.16 S.17 S.18 S.19 S.20
theorem At.back {A : Around} (F : Fs X) (h4 : A.handled = X.A.handled) (S : At (X.ar A) fr σ w) : At X fr σ w :=
  .mk (fun i so e => have o := S.1 i so e; ⟨o.1, o.2, o.3⟩) F S.3 S.4 S.5 S.6 S.7 S.8 S.9 S.10 S.11 S.12 S.13 (fun e he => have d := S.14 e he; ⟨d.1, h4.symm.trans d.2, d.3⟩) S.15 S.16 S.17 S.18 S.19 S.20
noncomputable def TR (X : Cx) (fr : SFr) (σ : SS) (v : SV) (b : Bool) (σ' : SS) : Prop := ∀ y, TP X (fun ρ => DV X.G.V σ.objs.length v ρ y) fr σ (truthy y) fr σ' (.val (isB b))
theorem TR.plain {v : SV} {b : Bool} (h : ∀ (w : Wd) y (Q : Bool → Shared → Prop) E, At X fr σ w → Den X.G.V w.ρ v y → (∀ t, Q b { w.s with toks := t }) → wpAny X.M X.A (truthy y) Q E w.s) : TR X fr σ v b σ :=
  fun y => ⟨.refl _, trivial, fun w Q E d S k => h w y Q E S d.1 fun t => k (w.hp w.s.heap t) .hp (toks S t) b rfl⟩
theorem At.notSys (S : At X fr σ w) {i : Nat} {so : SObj} (h : σ.objs[i]? = some so) : (w.ρ i == sysModules) = false := by
  obtain ⟨o, e⟩ := S.2.9
  cases q : w.ρ i == sysModules with
  | false => rfl
  | true => cases (S.1 i so h).2.symm.trans ((congrArg w.cl (beq_iff_eq.mp q)).trans (S.3 _ o (S.17 _ o e)).2)
theorem At.Fr_ (S : At X fr σ w) : Fr w.k X.L w.s.heap w.m := ⟨S.4, fun b o e => (S.3 b o e).1, S.16⟩
theorem isEmpty_len {α β : Type} {R : α → β → Prop} {l : List α} {m : List β} (h : All2 R l m) : m.isEmpty = l.isEmpty := by cases h <;> rfl
theorem lt63 {n : Nat} (h : n ≤ 1000) : (n : Int) < 2 ^ 63 := Int.lt_of_le_of_lt (Int.ofNat_le.mpr h) (by decide)
theorem nm_len : nm n___len__ = "__len__" := by decide +kernel
theorem nm_contains : nm n___contains__ = "__contains__" := by decide +kernel
theorem one_DVs {n : Nat} {v : SV} {y : Value} (d : DV V n v ρ y) : DVs V n [v] ρ [y] := ⟨.cons d.1 .nil, fun _ h => List.mem_singleton.mp h ▸ d.2⟩
theorem no_KWs {n : Nat} : KWs V n [] ρ [] := ⟨.nil, nil_all⟩
theorem truth_ok {k : Nat} (C : Cs k) (hy : Hy X) (hk : fu k + 1 ≤ X.n) {v : SV} : Ok2 (truth X.P (run X.P k) X.hd v σ) fun b σ' => TR X fr σ v b σ' := by
  cases v with
  | none => exact .ret (.plain fun w y Q E S d h => by cases d; exact truthy_none (h w.s.toks))
  | bool b => exact .ret (.plain fun w y Q E S d h => by cases d; exact wpAny_truthy_bool (h w.s.toks))
  | int i => exact .ret (.plain fun w y Q E S d h => by obtain ⟨t, rfl⟩ := d; exact PyProof.Rows.truthy_int (h w.s.toks))
  | ref i =>
    refine .on fun so hi => ?_
    cases so with
    | list xs =>
      refine .wh fun hn => .ret (.plain fun w y Q E S d h => ?_)
      cases d
      cases S.list hi with
      | mk vs m e l r => exact wpAny_truthy_list l (by rw [List.size_toArray, ← r.1.length]; exact lt63 (Nat.le_of_ble_eq_true hn)) (by rw [show (List.toArray vs).isEmpty = xs.isEmpty from (List.isEmpty_toArray ..).trans (isEmpty_len r.1)]; exact h _)
    | dict es =>
      refine .wh fun hn => .ret (.plain fun w y Q E S d h => ?_)
      cases d
      exact S.dict hi fun kvs D r => wpAny_truthy_dict (knd := strKind X.G.prog X.G.w) (S.notSys hi) D (by rw [← r.length]; exact lt63 (Nat.le_trans (Nat.le_of_ble_eq_true hn) (by decide))) (by rw [isEmpty_len r]; exact h _)
    | adict j =>
      refine .ret (.plain fun w y Q E S d h => ?_)
      cases d
      exact S.adict hi fun kvs D r ne le => wpAny_truthy_dict (knd := intKind X.G.prog X.G.w) (S.notSys hi) D (lt63 (Nat.le_trans le (by decide))) (by
        have q : (!kvs.isEmpty) = true := by cases kvs with | nil => exact absurd rfl ne | cons => rfl
        rw [q]; exact h _)
    | inst D d =>
      refine .bind fun l hl => .onD fun es hd => .opt (fun hn => .ret (.plain fun w y Q E S dy h => ?_)) fun cc hc => ?_
      · cases dy
        cases inst_of S hi hd with
        | mk des ep kvs I e p kk nd r lt => exact truthy_K0 S.Fr_ (S.2.5.keeps S.17) I (S.cls hl).10 (nm_len ▸ ((S.cls hl).12 n___len__ (by decide)).no hn) (h _)
      · cases cc with
        | fn g =>
          refine .okE ((C (X.ar X.A.in1) hy (Nat.le_sub_one_of_lt hk)).3 (.top g) [.ref i] [] fr σ) fun kv σ1 H => ?_
          cases kv with
          | int x =>
            refine .wh fun h01 => .ret fun y => ⟨H.1, trivial, fun w Q E dy S kc => ?_⟩
            have h0 : 0 ≤ x := of_decide_eq_true (an_bool h01).1
            have h1 : x ≤ 1000 := of_decide_eq_true (an_bool h01).2
            cases dy.1
            cases inst_of S hi hd with
            | mk des ep kvs I e p kk nd r lt =>
                  have A := ((S.cls hl).12 n___len__ (by decide)).fn hc
                  have f : findIn X.G.K (.ref D) "__len__" = some (some (.ref g)) := nm_len ▸ A.1
                  unfold truthy
                  refine wpAny_bind (m := callSpecial? (.ref (w.ρ i)) (PySem.Str.ofString "__bool__")) (wpAny_bind (wpAny_bind (I.type.here ((looks_findIn S.K (S.cls hl).10).here (wpAny_pure ?_)))))
                  refine wpAny_bind (wpAny_bind (I.type.here ((looks_findIn S.K f).here ?_)))
                  rw [if_neg (by exact Bool.false_ne_true)]
                  refine wpAny_bind (wpAny_runValue (codeAny_builtin entry_len ?_))
                  rw [Around.under_plainId plain_len _]
                  unfold Builtin.«len»
                  refine wpAny_bind (m := oneArg "len" _) (wpAny_pure ?_)
                  refine wpAny_bind (m := callSpecial? (.ref (w.ρ i)) (PySem.Str.ofString "__len__")) (special_fn S.K I f (beq_iff_eq.mp A.2) ?_)
                  refine H.4 w (.ref g) [.ref (w.ρ i)] [] _ _ (S.arnd (Nat.le_trans (Nat.le_add_left ..) hk) rfl (Nat.le_succ _) (Nat.add_le_add_left (by decide) _) rfl) ⟨rfl, trivial⟩ (one_DVs dy) no_KWs fun w1 x1 S1 z dz => ?_
                  obtain ⟨t, rfl⟩ := dz.1
                  dsimp only
                  refine wpAny_bind (wpAny_holding (wpAny_pure (wpAny_bind (wpAny_letGo ?_))))
                  show wpAny _ _ (if x < 0 then _ else _) _ _ _
                  rw [if_neg (Int.not_lt.mpr h0)]
                  show wpAny _ _ (if x ≥ 2 ^ 63 then _ else _) _ _ _
                  rw [if_neg (Int.not_le.mpr (Int.lt_of_le_of_lt h1 (by decide)))]
                  exact wpAny_bind (wpAny_mkInt (wpAny_pure (wpAny_pure (kc _ (x1.trans H.1.1 .hp) (toks (At.back (A := X.A.in1) S.2 rfl S1) _) _ rfl))))
          | _ => exact .nil
        | _ => exact .nil
    | _ => exact .nil
  | _ => exact .nil
end
end Mine
namespace Mine
open PySem PySem.W PyProof.Rows PySem.Calls
section
variable {X : Cx} {I : In} {c : CK} {N : Nat} {fr fr' : SFr} {σ σ' σ₁ σ₂ σ₃ : SS} {w w' : Wd} {V : Val} {ρ : Nat → Addr} {G : Gl} {P : PT}
inductive RdAt (h : Heap) (n : Nat) (y : Value) (D : PyData) : Prop | mk (as : List Addr) (r : Reads h y D as) (c : D.canLay0 = true) (d : D.depth ≤ n + 1)
inductive RdsAt (h : Heap) (n : Nat) (ys : List Value) (D : List PyData) : Prop | mk (as : List Addr) (r : ReadsAll h ys D as) (c : PyData.canLayAll0 D = true) (d : PyData.depthAll D ≤ n + 1)
theorem names'_ok : names'.all (fun x => PyData.strOk x) = true := by decide +kernel
theorem names'_len : names'.length = 190 := List.length_map ..
theorem nm_ok {n : Nat} (h : n < 190) : PyData.strOk (nm n) = true := by
  have hl : n < names'.length := Nat.lt_of_lt_of_eq h names'_len.symm
  unfold nm
  rw [List.getD_eq_getElem?_getD, List.getElem?_eq_getElem hl]
  exact List.all_eq_true.mp names'_ok _ (List.getElem_mem hl)
noncomputable def d2 (V : Val) (a : ST) : PyData × List PyData := a.rec (.none, []) (fun b => (.bool b, [])) (fun i => (.int i, [])) (fun n => (.str (nm n), [])) (fun j => (.str (V.str j), [])) (fun _ l => (.list l.2, [])) (fun _ l => (.tuple l.2, [])) (.none, []) fun _ _ x l => (.none, x.1 :: l.2)
noncomputable def RdS (X : Cx) (fr : SFr) (σ : SS) (n : Nat) (v : SV) (a : ST) : Prop := ∀ w y, At X fr σ w → Den X.G.V w.ρ v y → RdAt w.s.heap n y (d2 X.G.V a).1
theorem rdL_ok {n : Nat} {f : SV → Option ST} (ih : ∀ v, Ok (f v) (RdS X fr σ n v)) {xs : List SV} : Ok (rdL f xs) fun a => ∀ w ys, At X fr σ w → All2 (Den X.G.V w.ρ) xs ys → RdsAt w.s.heap n ys (d2 X.G.V a).2 := by
  induction xs with
  | nil => exact .ret fun w ys S h => by cases h; exact .mk _ .nil rfl (Nat.zero_le _)
  | cons x xs ihx =>
    refine .then (x := f x) (ih x) fun a h1 => .then (x := rdL f xs) ihx fun l h2 => .ret fun w ys S h => ?_
    cases h with
    | cons p q => cases h1 w _ S p with | mk as r c d => cases h2 w _ S q with | mk as' r' c' d' => exact .mk _ (.cons r r') (Bool.and_eq_true_iff.mpr ⟨c, c'⟩) (Nat.max_le.mpr ⟨d, d'⟩)
theorem rd_ok (n : Nat) : ∀ v, Ok (rdS σ n v) (RdS X fr σ n v) := by
  induction n with
  | zero => exact fun v => .nil
  | succ n ih =>
    intro v
    cases v with
    | none => exact .ret fun w y S d => by cases d; exact .mk _ .none rfl (Nat.le_add_left ..)
    | bool b => exact .ret fun w y S d => by cases d; exact .mk _ (.bool _) rfl (Nat.le_add_left ..)
    | int i => exact .ret fun w y S d => by obtain ⟨t, rfl⟩ := d; exact .mk _ (.int _ _) rfl (Nat.le_add_left ..)
    | str k => exact .wh fun hk => .ret fun w y S d => by obtain ⟨t, rfl⟩ := d; exact .mk _ (.str _ _) (nm_ok (Nat.le_of_ble_eq_true hk)) (Nat.le_add_left ..)
    | sstr j => exact .ret fun w y S d => by obtain ⟨t, rfl⟩ := d; exact .mk _ (.str _ _) (S.pk.5 j) (Nat.le_add_left ..)
    | ref i =>
      refine .on fun so hi => ?_
      cases so with
      | list xs =>
        refine .then (x := rdL (rdS σ n) xs) (rdL_ok ih) fun l h => .ret fun w y S d => ?_
        cases d
        exact S.at_ hi fun o e D => by cases D with | mk vs m r => cases h w vs S r with | mk as rr c d => exact .mk _ (.list e rfl rfl rr) c (Nat.succ_le_succ d)
      | tup xs =>
        refine .then (x := rdL (rdS σ n) xs) (rdL_ok ih) fun l h => .ret fun w y S d => ?_
        cases d
        exact S.at_ hi fun o e D => by cases D with | mk vs m r => cases h w vs S r with | mk as rr c d => exact .mk _ (.tuple e rfl rfl rr) c (Nat.succ_le_succ d)
      | _ => exact .nil
    | _ => exact .nil
noncomputable def EqP (V : Val) (a b : ST) (c : Bool) : Prop := cond a.ch (PyData.eqvAll (d2 V a).2 (d2 V b).2) (PyData.eqv (d2 V a).1 (d2 V b).1) = c
theorem eqP_ch {a b : ST} {c : Bool} (h : a.ch = true) (e : EqP V a b c) : PyData.eqvAll (d2 V a).2 (d2 V b).2 = c := by unfold EqP at e; rw [h] at e; exact e
theorem eqP_no {a b : ST} {c : Bool} (h : (!a.ch) = true) (e : EqP V a b c) : PyData.eqv (d2 V a).1 (d2 V b).1 = c := by
  unfold EqP at e
  cases q : a.ch with
  | true => rw [q] at h; cases h
  | false => rw [q] at e; exact e
theorem eq_ok {a : ST} : ∀ b, Ok (eqS a b) (EqP V a b) := by
  induction a with
  | none => intro b; cases b with | none => exact .ret rfl | _ => exact .nil
  | bool x => intro b; cases b with | bool y => exact .ret rfl | _ => exact .nil
  | int x => intro b; cases b with | int y => exact .ret rfl | _ => exact .nil
  | str x => intro b; cases b with | str y => exact .ret (beq_nm x y) | _ => exact .nil
  | sstr x => intro b; cases b with | sstr y => exact .wh fun h => .ret (Nat.eq_of_beq_eq_true h ▸ beq_self_eq_true _) | _ => exact .nil
  | list x ih => intro b; cases b with | list y => exact .wh fun h => (ih y).mono fun c e => eqP_ch h e | _ => exact .nil
  | tup x ih => intro b; cases b with | tup y => exact .wh fun h => (ih y).mono fun c e => eqP_ch h e | _ => exact .nil
  | nil => intro b; cases b with | nil => exact .ret rfl | cons => exact .ret rfl | _ => exact .nil
  | cons x l ihx ihl =>
    intro b
    cases b with
    | nil => exact .ret rfl
    | cons y m => exact .wh fun h => .then (x := eqS x y) (ihx y) fun t ht => .cond (fun q => (ihl m).mono fun c e => (congr (congrArg and ((eqP_no (an_bool h).1 ht).trans q)) (eqP_ch (an_bool h).2 e)).trans (Bool.true_and _)) fun q => .ret (congrArg (and · _) ((eqP_no (an_bool h).1 ht).trans q))
    | _ => exact .nil
noncomputable def D2 (X : Cx) (σ : SS) (a b : SV) (x y : Value) (ρ : Nat → Addr) : Prop := An (DV X.G.V σ.objs.length a ρ x) (DV X.G.V σ.objs.length b ρ y)
theorem icmp_ok {o : Nat} {x y : Int} {c : Bool} {t u : Tok} {A : Around} {Q : Value → Shared → Prop} {E : Value → Shared → Prop} {s : Shared} (e : icmp o x y = some c) (h : Q (.bool c) s) : wpAny G.M A (compareOp (opOf o) (.int x t) (.int y u)) Q E s :=
  match o, e with
  | 2, e => eq_int (show Q (.bool (decide (x = y))) s from (Option.some.inj e : decide (x = y) = c) ▸ h)
  | 3, e => ne_int (show Q (.bool (!decide (x = y))) s from (Option.some.inj e : (!decide (x = y)) = c) ▸ h)
  | 6, e => lt_int (Option.some.inj e ▸ h)
  | 7, e => gt_int (Option.some.inj e ▸ h)
  | 8, e => ge_int (Option.some.inj e ▸ h)
  | 9, e => le_int (Option.some.inj e ▸ h)
theorem rowIcmp_mem {o : Nat} {a b : SV} {rs : List Row} : Ok (rowIcmp o a b rs) fun c => .icmp o a b c ∈ rs := .row fun r hr => by
  cases r with
  | icmp o' a' b' c => exact .wh fun h => .ret (Nat.eq_of_beq_eq_true (an_bool h).1 ▸ SV.eqb_of (an_bool (an_bool h).2).1 ▸ SV.eqb_of (an_bool (an_bool h).2).2 ▸ hr)
  | _ => exact .nil
theorem rowIop_mem {o : Nat} {a b : SV} {rs : List Row} : Ok (rowIop o a b rs) fun c => .iop o a b c ∈ rs := .row fun r hr => by
  cases r with
  | iop o' a' b' c => exact .wh fun h => .ret (Nat.eq_of_beq_eq_true (an_bool h).1 ▸ SV.eqb_of (an_bool (an_bool h).2).1 ▸ SV.eqb_of (an_bool (an_bool h).2).2 ▸ hr)
  | _ => exact .nil
theorem rowCat_mem {a b : SV} {rs : List Row} : Ok (rowCat a b rs) fun c => .cat a b c ∈ rs := .row fun r hr => by
  cases r with
  | cat a' b' c => exact .wh fun h => .ret (SV.eqb_of (an_bool h).1 ▸ SV.eqb_of (an_bool h).2 ▸ hr)
  | _ => exact .nil
theorem ty_lt : Value.type "list" ≠ .type "tuple" := by decide +kernel
theorem ty_dt : Value.type "dict" ≠ .type "tuple" := by decide +kernel
theorem of_tree {α : Type} {M : Model} {A : Around} {E : Value → Shared → Prop} {s : Shared} {t u : Sem α} {R : α → Shared → Prop} (e : t = u) (h : wpAny M A u R E s) : wpAny M A t R E s := e ▸ h
theorem beq_dec (a b : Nat) : (a == b) = Nat.beq a b := by
  cases q : Nat.beq a b with
  | true => exact beq_iff_eq.mpr (Nat.eq_of_beq_eq_true q)
  | false => exact beq_eq_false_iff_ne.mpr (beq_false q)
theorem not_t {b : Bool} (h : (!b) = true) : b = false := by cases b with | false => rfl | true => cases h
theorem created_ok {M : Model} {A : Around} {E : Value → Shared → Prop} {s : Shared} {e : Bool} {t u : Nat} {R : Bool → Shared → Prop} (ht : (!Nat.beq t 0) = true) (hu : (!Nat.beq u 0) = true) (h : Nat.beq t u = e) (k : R e s) : wpAny M A (isSame.created e t u) R E s := by
  unfold isSame.created
  rw [(beq_dec t 0).trans (not_t ht), (beq_dec u 0).trans (not_t hu), (beq_dec t u).trans h]
  cases e <;> exact wpAny_pure k
noncomputable def IsT (X : Cx) (fr : SFr) (σ : SS) (a b : SV) (c : Bool) : Prop := ∀ (w : Wd) x y (R : Bool → Shared → Prop) (E : Value → Shared → Prop), At X fr σ w → DV X.G.V σ.objs.length a w.ρ x → DV X.G.V σ.objs.length b w.ρ y → R c w.s → wpAny X.M X.A (isSame x y) R E w.s
theorem At.obj_ex (S : At X fr σ w) {i : Nat} (h : i < σ.objs.length) : ∃ o, w.s.heap.get? (w.ρ i) = some o := oi_ex (S.lt h).1
theorem is_other {i j : Nat} {so : SObj} (hi : σ.objs[i]? = some so) (hc : ∀ (ρ : Nat → Addr) o, OD X.G ρ so o → o.cls ≠ .type "tuple") (q : Nat.beq i j = false) : IsT X fr σ (.ref i) (.ref j) false := fun w x y R E S hx hy h => by
  cases hx.1
  cases hy.1
  obtain ⟨oj, ej⟩ := S.obj_ex hy.2
  exact S.at_ hi fun o e d => wpAny_isSame_ref_other (fun z => beq_false q (S.inj hx.2 hy.2 z)) e ej (hc _ o d) h
theorem is_ok {a b : SV} : Ok (isV σ a b) (IsT X fr σ a b) := by
  cases b with
  | none =>
    cases a with
    | none => exact .ret fun w x y R E S hx hy h => by cases hx.1; cases hy.1; exact wpAny_isSame_plain rfl h
    | bool => exact .ret fun w x y R E S hx hy h => by cases hx.1; cases hy.1; exact wpAny_isSame_plain rfl h
    | ref => exact .ret fun w x y R E S hx hy h => by cases hx.1; cases hy.1; exact wpAny_isSame_plain rfl h
    | top => exact .ret fun w x y R E S hx hy h => by cases hx.1; cases hy.1; exact wpAny_isSame_plain rfl h
    | cstr => exact .ret fun w x y R E S hx hy h => by cases hx.1; cases hy.1; exact wpAny_isSame_plain rfl h
    | _ => exact .nil
  | bool q =>
    cases a with
    | bool p => exact .ret fun w x y R E S hx hy h => by cases hx.1; cases hy.1; exact wpAny_isSame_plain rfl (by cases p <;> cases q <;> exact h)
    | _ => exact .nil
  | ref j =>
    refine .onR fun i ha => .cond (fun q => .ret fun w x y R E S hx hy h => ?_) fun q => .on fun so hi => ?_
    · cases ha; cases Nat.eq_of_beq_eq_true q; cases hx.1; cases hy.1
      exact wpAny_isSame_ref_self h
    · cases ha
      cases so with
      | list xs => exact .ret (is_other hi (fun _ o d => by cases d; exact ty_lt) q)
      | dict es => exact .ret (is_other hi (fun _ o d => by cases d with | mk _ D => cases D; exact ty_dt) q)
      | inst C d => exact .ret (is_other hi (fun _ o d => by cases d; exact (nomatch ·)) q)
      | exc C d => exact .ret (is_other hi (fun _ o d => by cases d with | mk _ c => rw [c]; exact (nomatch ·)) q)
      | _ => exact .nil
  | cstr m u =>
    cases a with
    | cstr n t =>
      refine .wh fun h => .ret fun w x y R E S hx hy k => ?_
      cases hx.1; cases hy.1
      have h0 := an_bool h
      have h1 := an_bool h0.2
      exact of_tree (show isSame (.str (nm n) t) (.str (nm m) u) = isSame.created (Nat.beq n m) t u from congrArg (isSame.created · t u) (beq_nm n m)) (created_ok h0.1 h1.1 (beq_iff_eq.mp h1.2).symm k)
    | _ => exact .nil
  | _ => exact .nil
theorem shaped_of {D : PyData} (c : D.canLay0 = true) (d : D.depth ≤ 9) : SeqAt.shaped D = true := Bool.and_eq_true_iff.mpr ⟨c, decide_eq_true (Nat.le_trans d (by decide))⟩
abbrev OpT (X : Cx) (fr : SFr) (σ : SS) (a b : SV) (t : Value → Value → Sem Value) (r : SV) (σ' : SS) : Prop := ∀ x y, TP X (D2 X σ a b x y) fr σ (t x y) fr σ' (.val (DV X.G.V σ'.objs.length r))
theorem OpT.plain {a b r : SV} {t : Value → Value → Sem Value} (h : ∀ (w : Wd) x y (Q : Value → Shared → Prop) E, At X fr σ w → Den X.G.V w.ρ a x → Den X.G.V w.ρ b y → (∀ z tk, DV X.G.V σ.objs.length r w.ρ z → Q z { w.s with toks := tk }) → wpAny X.M X.A (t x y) Q E w.s) : OpT X fr σ a b t r σ :=
  fun x y => ⟨.refl _, trivial, fun w Q E d S k => h w x y Q E S d.1.1 d.2.1 fun z tk => k (w.hp w.s.heap tk) .hp (toks S tk) z⟩
noncomputable def CmpT (X : Cx) (fr : SFr) (σ : SS) (o : Nat) (a b : SV) (c : Bool) (σ' : SS) : Prop := OpT X fr σ a b (compareOp (opOf o)) (.bool c) σ'
theorem row_cmp {o : Nat} {a b : SV} : Ok (rowIcmp o a b σ.rows) fun c => CmpT X fr σ o a b c σ := rowIcmp_mem.mono fun c hr => .plain fun w x y Q E S hx hy h => by
  cases (S.row hr).1 with
  | mk i j h1 h2 e =>
    obtain ⟨t, rfl⟩ := ival_den h1 hx
    obtain ⟨u, rfl⟩ := ival_den h2 hy
    exact icmp_ok e (h _ _ ⟨rfl, trivial⟩)
theorem At.units (S : At X fr σ w) : X.A.units + 64 < cLine := Nat.lt_of_le_of_lt (Nat.add_le_add_right (Nat.le_add_right ..) _) S.2.16
theorem eqV_ok {a b : SV} : Ok (eqV σ a b) fun c => An (CmpT X fr σ 2 a b c σ) (CmpT X fr σ 3 a b (!c) σ) :=
  .then (x := rdS σ 8 a) (rd_ok 8 a) fun p hp => .then (x := rdS σ 8 b) (rd_ok 8 b) fun q hq => .wh fun hn => (eq_ok q).mono fun c e =>
    ⟨.plain fun w x y Q E S hx hy h => by cases hp w x S hx with | mk as r c1 d1 => cases hq w y S hy with | mk bs r' c2 d2 => exact eq_dataH r r' (shaped_of c1 d1) (shaped_of c2 d2) S.units ((eqP_no hn e).symm ▸ h _ _ ⟨rfl, trivial⟩),
     .plain fun w x y Q E S hx hy h => by cases hp w x S hx with | mk as r c1 d1 => cases hq w y S hy with | mk bs r' c2 d2 => exact ne_dataH r r' (shaped_of c1 d1) (shaped_of c2 d2) S.units ((eqP_no hn e).symm ▸ h _ _ ⟨rfl, trivial⟩)⟩
theorem IsT.cmp {a b : SV} {c : Bool} (H : IsT X fr σ a b c) : An (CmpT X fr σ 0 a b c σ) (CmpT X fr σ 1 a b (!c) σ) :=
  ⟨fun x y => ⟨.refl _, trivial, fun w Q E d S k => wpAny_bind (H w x y _ E S d.1 d.2 (wpAny_pure (k w (.refl ..) S _ ⟨rfl, trivial⟩)))⟩, fun x y => ⟨.refl _, trivial, fun w Q E d S k => wpAny_bind (H w x y _ E S d.1 d.2 (wpAny_pure (k w (.refl ..) S _ ⟨rfl, trivial⟩)))⟩⟩
theorem cmp_ok {o : Nat} {a b : SV} : Ok (cmpV σ o a b) fun c => CmpT X fr σ o a b c σ := by
  refine .cond (fun h => Nat.eq_of_beq_eq_true h ▸ is_ok.mono fun c H => H.cmp.1) fun _ => .cond (fun h => Nat.eq_of_beq_eq_true h ▸ .then (x := isV σ a b) is_ok fun c H => .ret H.cmp.2) fun _ => ?_
  have rest : Ok (cond (Nat.beq o 2) (eqV σ a b) (wh (Nat.beq o 3) ((eqV σ a b).bind fun t => some (!t)))) fun c => CmpT X fr σ o a b c σ :=
    .cond (fun h => Nat.eq_of_beq_eq_true h ▸ eqV_ok.mono fun c H => H.1) fun _ => .wh fun h => Nat.eq_of_beq_eq_true h ▸ .then (x := eqV σ a b) (eqV_ok) fun c H => .ret H.2
  cases a with
  | sint j => exact row_cmp
  | int x =>
    cases b with
    | int y =>
      intro c e
      exact .plain fun w _ _ Q E S hx hy h => by
        obtain ⟨t, rfl⟩ := hx
        obtain ⟨u, rfl⟩ := hy
        exact icmp_ok e (h _ _ ⟨rfl, trivial⟩)
    | _ => exact .nil
  | _ => exact rest
theorem int_small {x y : Int} (h1 : -1000 < y) (h2 : y < 1000) : IntMulOk x y ∧ Builtin.divisionGoesByPylong x y = false := by
  refine ⟨IntMulOk.of_right (intBits_le_64 (by omega) (by omega)), ?_⟩
  have hy : (if y == 0 then 0 else y.natAbs.log2 / 30 + 1) ≤ 300 := by
    split
    · exact Nat.zero_le _
    · have : y.natAbs.log2 < 10 := by
        rcases Nat.eq_zero_or_pos y.natAbs with h0 | hp
        · rw [h0]; decide
        · exact (Nat.log2_lt (Nat.ne_of_gt hp)).mpr (by omega)
      omega
  show (decide (_ > 300) && _) = false
  rw [decide_eq_false (Nat.not_lt.mpr hy)]; rfl
theorem iop_ok {o : Nat} {x y z : Int} {t u : Tok} {A : Around} {Q : Value → Shared → Prop} {E : Value → Shared → Prop} {s : Shared} (e : iop o x y = some z) (h0 : 3 ≤ o → y ≠ 0) (l : -1000 < y) (r : y < 1000) (h : Q (.int z s.toks) { s with toks := s.toks + 1 }) : wpAny G.M A (binaryOp (binOf o) (.int x t) (.int y u)) Q E s :=
  match o, e, h0 with
  | 0, e, _ => add_int (Option.some.inj e ▸ h)
  | 1, e, _ => sub_int (Option.some.inj e ▸ h)
  | 2, e, _ => mul_int (Option.some.inj e ▸ h) (int_small l r).1
  | 3, e, h0 => floordiv_int (h0 (by decide)) (Option.some.inj e ▸ h) (.inl (int_small l r).2)
  | 4, e, h0 => PyProof.Rows.mod_int' (h0 (by decide)) (Option.some.inj e ▸ h)
noncomputable def AN (h₀ : Heap) (L : Addr) (h : Heap) : List (Addr × Obj) :=
  (List.range h.objs.size).filterMap fun a => (h.get? a).bind fun o => if a ≠ L ∧ h₀.get? a = none then some (a, o) else none
theorem AN.mem {h₀ h : Heap} {L a : Addr} {o : Obj} : (a, o) ∈ AN h₀ L h ↔ h.get? a = some o ∧ a ≠ L ∧ h₀.get? a = none := by
  unfold AN
  rw [List.mem_filterMap]
  constructor
  · rintro ⟨b, _, e⟩
    obtain ⟨o', q, e⟩ := Option.bind_eq_some_iff.mp e
    by_cases c : b ≠ L ∧ h₀.get? b = none
    · rw [if_pos c] at e; cases e; exact ⟨q, c⟩
    · rw [if_neg c] at e; cases e
  · rintro ⟨e, c⟩
    exact ⟨a, List.mem_range.mpr (Heap.lt_size e), Option.bind_eq_some_iff.mpr ⟨o, e, if_pos c⟩⟩
theorem AN.news {h₀ h : Heap} {L : Addr} : News h₀ L h (AN h₀ L h) := fun _ hp => AN.mem.mp hp
theorem AN.keep {h' : Heap} {m : PySem.Str → Option Value} {rest : List (Addr × Obj)} (S : At X fr σ w) (F : Fr w.k X.L h' m) (N : News w.k X.L h' rest) (hr : ∀ p ∈ AN w.k X.L w.s.heap, p ∈ rest) : ∀ b o, w.s.heap.get? b = some o → b ≠ X.L → h'.get? b = some o := fun b o e hL => by
  cases q : w.k.get? b with
  | some o' => exact Option.some.inj ((S.3 b o' q).1.symm.trans e) ▸ F.keep b o' q
  | none => exact (N _ (hr (b, o) (AN.mem.mpr ⟨e, hL, q⟩))).1
theorem newN (S : At X fr σ w) {a : Addr} {so : SObj} {o : Obj} {h' : Heap} {t : Nat} {rest : List (Addr × Obj)} (F : Fr w.k X.L h' w.m) (N : News w.k X.L h' ((a, o) :: rest)) (hr : ∀ p ∈ AN w.k X.L w.s.heap, p ∈ rest) (ha : w.s.heap.get? a = none) (d : OD X.G w.ρ so o)
    (x : OX X.G (clUp w.cl a (.ob σ.objs.length)) h' σ.objs.length so o) (lt : so.lt σ.objs.length) : At X fr (σ.new so) (w.al σ.objs.length a h' t) := newF S (AN.keep S F (fun p hp => N p (.tail _ hp)) hr) F.ns ha (N _ (.head _)).1 d x lt
abbrev BinT (X : Cx) (fr : SFr) (σ : SS) (o : Nat) (a b r : SV) (σ' : SS) : Prop := OpT X fr σ a b (binaryOp (binOf o)) r σ'
theorem row_iop {o : Nat} {a b : SV} : Ok (rowIop o a b σ.rows) fun c => BinT X fr σ o a b c σ := rowIop_mem.mono fun c hr => .plain fun w x y Q E S hx hy h => by
  cases (S.row hr).1 with
  | mk i j k h1 h2 h3 e n l u =>
    obtain ⟨t, rfl⟩ := ival_den h1 hx
    obtain ⟨u', rfl⟩ := ival_den h2 hy
    exact iop_ok e n l u (h _ _ (ival_of h3 _))
theorem bin_ok {o : Nat} {a b : SV} : Ok2 (binV σ o a b) fun r σ' => BinT X fr σ o a b r σ' := by
  cases a with
  | int x =>
    cases b with
    | int y =>
      refine .wh fun h => .bind fun z e => .ret (.plain fun w _ _ Q E S hx hy k => ?_)
      obtain ⟨t, rfl⟩ := hx
      obtain ⟨u, rfl⟩ := hy
      have h1 := an_bool h
      have h2 := an_bool h1.2
      exact iop_ok e (fun q z => by have := h2.2; rw [show Nat.ble 3 o = true from Nat.ble_eq_true_of_le q, decide_eq_true z] at this; cases this) (of_decide_eq_true h1.1) (of_decide_eq_true h2.1) (k _ _ ⟨⟨_, rfl⟩, trivial⟩)
    | _ => exact .nil
  | sint j => exact .then (x := rowIop o _ b σ.rows) row_iop fun c H => .ret H
  | ref i =>
    refine .onR fun j hb => .wh fun ho => .onL fun xs hi => .onL fun ys hj => .wh fun hn => .ret fun x y => ⟨.new, trivial, fun w Q E d S k => ?_⟩
    cases hb
    cases Nat.eq_of_beq_eq_true ho
    cases d.1.1
    cases d.2.1
    cases S.list hi with | mk vs m e l r => cases S.list hj with
    | mk us m' e' l' r' =>
      refine add_lists S.Fr_ AN.news l l' (fun h' F' N' => newQ k (.refl ..) (Nat.le_refl _) (newN S F' N' (fun p hp => hp) none_size (.mk _ _ (r.1.append r'.1)) trivial fun v hv => (List.mem_append.mp hv).elim (r.2 v) (r'.2 v))) ?_
      have hn' := Nat.le_trans (Nat.le_of_ble_eq_true hn) size_1000
      rw [List.length_append, r.1.length, r'.1.length] at hn'
      exact hn'
  | str n =>
    refine .wh fun ho => .then (x := rowCat _ b σ.rows) rowCat_mem fun c hr => .ret (.plain fun w x y Q E S hx hy h => ?_)
    cases Nat.eq_of_beq_eq_true ho
    cases (S.row hr).1 with
    | mk p q h1 h2 h3 l =>
      obtain ⟨t, rfl⟩ := sval_den h1 hx
      obtain ⟨u, rfl⟩ := sval_den h2 hy
      exact add_str (fun t' tk => h _ _ (sval_of h3 _)) (Nat.le_trans l size_1000)
  | _ => exact .nil
theorem marks {op : CmpOp} {e : Expr} (h : plB e = true) : behindInMarks op e = false := by
  cases e with
  | Set => cases h
  | _ => rfl
theorem two {el er : Expr} {a b : SV} {α : Type} {t : Value → Value → Sem α} {o : Oc α} (H : HV X fr σ (eval el X.env) a σ₁) (H2 : HV X fr σ₁ (eval er X.env) b σ₂) (C : ∀ x y, TP X (D2 X σ₂ a b x y) fr σ₂ (t x y) fr σ₃ o) {Q : α → Shared → Prop} {E : Value → Shared → Prop} (S : At X fr σ w)
    (k : ∀ w', Ex X.outer σ.objs.length w w' → At X fr σ₃ w' → o.post Q E w') : wpAny X.M X.A (eval el X.env) (fun x s => wpAny X.M X.A (eval er X.env) (fun y s => wpAny X.M X.A (t x y) Q E s) E s) E w.s :=
  H.3 w _ _ trivial S fun w1 x1 S1 x d1 => H2.3 w1 _ _ trivial S1 fun w2 x2 S2 y d2 => (C x y).3 w2 _ _ ⟨d1.ext x2.1 H2.1.1, d2⟩ S2 fun w3 x3 => k w3 ((x1.trans H.1.1 x2).trans (H.1.trans H2.1).1 x3)
theorem ev_bin {el er : Expr} {p : Pos} {o : Nat} {a b r : SV} (H : HV X fr σ (eval el X.env) a σ₁) (H2 : HV X fr σ₁ (eval er X.env) b σ₂) (C : BinT X fr σ₂ o a b r σ₃) : HV X fr σ (eval (.BinOp el (binOf o) er p) X.env) r σ₃ :=
  ⟨(H.1.trans H2.1).trans (C .none .none).1, trivial, fun w Q E _ S k => wpAny_BinOp (two H H2 C S k)⟩
theorem ev_cmp {el er : Expr} {p : Pos} {o : Nat} {a b : SV} {r : Bool} (m : plB er = true) (H : HV X fr σ (eval el X.env) a σ₁) (H2 : HV X fr σ₁ (eval er X.env) b σ₂) (C : CmpT X fr σ₂ o a b r σ₃) : HV X fr σ (eval (.Compare el [opOf o] [er] p) X.env) (.bool r) σ₃ :=
  ⟨(H.1.trans H2.1).trans (C .none .none).1, trivial, fun w Q E _ S k => wpAny_Compare1 (two H H2 C S k) (marks m)⟩
theorem CmpT.b {o : Nat} {a b : SV} {r : Bool} (C : CmpT X fr σ o a b r σ') (x y : Value) : TP X (D2 X σ a b x y) fr σ (compareOp (opOf o) x y) fr σ' (.val (isB (.bool r))) :=
  ⟨(C x y).1, trivial, fun w Q E d S k => (C x y).3 w Q E d S fun w' x' S' a d' => k w' x' S' a d'.1⟩
theorem tst_cmp {el er : Expr} {p : Pos} {o : Nat} {a b : SV} {r : Bool} {whole : Sem Value} (m : plB er = true) (H : HV X fr σ (eval el X.env) a σ₁) (H2 : HV X fr σ₁ (eval er X.env) b σ₂) (C : CmpT X fr σ₂ o a b r σ₃) : BT X fr σ (PySem.isTrue (.Compare el [opOf o] [er] p) X.env whole) r σ₃ :=
  ⟨(H.1.trans H2.1).trans (C .none .none).1, trivial, fun w Q E _ S k => wpAny_isTrue_Compare1 (two H H2 C.b S fun w' x' S' a e => by cases e; exact wpAny_truthy_bool (k w' x' S' r rfl)) (marks m)⟩
theorem ev_not {ex : Expr} {p : Pos} {v : SV} {r : Bool} (H : HV X fr σ (eval ex X.env) v σ₁) (T : TR X fr σ₁ v r σ₂) : HV X fr σ (eval (.UnaryOp .Not ex p) X.env) (.bool (!r)) σ₂ :=
  ⟨H.1.trans (T .none).1, trivial, fun w Q E _ S k => wpAny_UnaryOp (H.3 w _ _ trivial S fun w1 x1 S1 x d1 => not_of ((T x).3 w1 _ _ d1 S1 fun w2 x2 S2 b e => by cases e; exact k w2 (x1.trans H.1.1 x2) S2 _ ⟨rfl, trivial⟩))⟩
noncomputable def boolOf (b : Bool) : PySem.BoolOp := match b with | true => .And | false => .Or
theorem ev_stop {b t : Bool} {e₁ e₂ : Expr} {es : List Expr} {p : Pos} {v : SV} (q : Bool.xor t b = true) (H : HV X fr σ (eval e₁ X.env) v σ₁) (T : TR X fr σ₁ v t σ₂) : HV X fr σ (eval (.BoolOp (boolOf b) (e₁ :: e₂ :: es) p) X.env) v σ₂ :=
  ⟨H.1.trans (T .none).1, trivial, fun w Q E _ S k => by
    cases b with
    | true => cases t with
      | true => cases q
      | false => exact BoolOp_and (H.3 w _ _ trivial S fun w1 x1 S1 x d1 => (T x).3 w1 _ E d1 S1 fun w2 x2 S2 c e => by cases e; exact k w2 (Ex.trans x1 H.1.1 x2) S2 x (d1.ext x2.1 (T .none).1.1))
    | false => cases t with
      | false => cases q
      | true => exact BoolOp_or (H.3 w _ _ trivial S fun w1 x1 S1 x d1 => (T x).3 w1 _ E d1 S1 fun w2 x2 S2 c e => by cases e; exact k w2 (Ex.trans x1 H.1.1 x2) S2 x (d1.ext x2.1 (T .none).1.1))⟩
theorem ev_go {b t : Bool} {e₁ e₂ : Expr} {es : List Expr} {p : Pos} {v r : SV} (q : Bool.xor t b = false) (H : HV X fr σ (eval e₁ X.env) v σ₁) (T : TR X fr σ₁ v t σ₂) (H2 : HV X fr σ₂ (eval (.BoolOp (boolOf b) (e₂ :: es) p) X.env) r σ₃) : HV X fr σ (eval (.BoolOp (boolOf b) (e₁ :: e₂ :: es) p) X.env) r σ₃ :=
  ⟨(H.1.trans (T .none).1).trans H2.1, trivial, fun w Q E _ S k => by
    cases b with
    | true => cases t with
      | false => cases q
      | true => exact BoolOp_and (H.3 w _ _ trivial S fun w1 x1 S1 x d1 => (T x).3 w1 _ E d1 S1 fun w2 x2 S2 c e => by cases e; exact H2.3 w2 Q E trivial S2 fun w3 x3 => k w3 ((x1.trans H.1.1 x2).trans (H.1.trans (T .none).1).1 x3))
    | false => cases t with
      | true => cases q
      | false => exact BoolOp_or (H.3 w _ _ trivial S fun w1 x1 S1 x d1 => (T x).3 w1 _ E d1 S1 fun w2 x2 S2 c e => by cases e; exact H2.3 w2 Q E trivial S2 fun w3 x3 => k w3 ((x1.trans H.1.1 x2).trans (H.1.trans (T .none).1).1 x3))⟩
theorem bop_ok {k : Nat} (C : Cs k) (hy : Hy X) (hk : fu k + 1 ≤ X.n) (H : EvR X (run X.P k) N c) {b : Bool} {p : Pos} {l : List IE} : ∀ {m : List Expr} {x : Expr} {v : SV} {σ σ₁ : SS}, (ckEs (ckE X.P N) c l m).den X.G → HV X fr σ (eval x X.env) v σ₁ →
    Ok2 (evb X.P (run X.P k) X.hd fr b l v σ₁) fun r σ' => HV X fr σ (eval (.BoolOp (boolOf b) (x :: m) p) X.env) r σ' := by
  induction l with
  | nil => exact fun h A => ckEs_nil h ▸ .ret ⟨A.1, trivial, fun w Q E _ S k => BoolOp_one (A.3 w Q E trivial S k)⟩
  | cons e l ih =>
    exact fun {m x v σ σ₁} h A => ckEs_cons (C := fun m => Ok2 (b2 (truth X.P (run X.P k) X.hd v σ₁) fun t σ => cond (Bool.xor t b) (some (v, σ)) (okE ((run X.P k).ev e X.hd fr σ) (evb X.P (run X.P k) X.hd fr b l))) fun r σ' => HV X fr σ (eval (.BoolOp (boolOf b) (x :: m) p) X.env) r σ') h fun y ys h1 h2 =>
      .b2 (truth_ok (fr := fr) C hy hk) fun t σ2 T => .cond (fun q => .ret (ev_stop q A T)) fun q => .okE (H e y fr σ2 h1) fun u σ3 B => (ih h2 B).mono fun r R => ev_go q A T R
theorem pl_tst {x : Expr} {env : Env} {t : Sem Value} (h : plB x = true) (h2 : plT x = true) : PySem.isTrue x env t = (do let v ← t; standAt x.pos; holding [v] (truthy v)) := by
  cases x with
  | UnaryOp o => cases o <;> first | rfl | exact Bool.noConfusion h2 | exact Bool.noConfusion h
  | BoolOp o => cases o <;> exact Bool.noConfusion h2
  | Compare => cases h2
  | IfExp => cases h2
  | _ => rfl
theorem tst_val {x : Expr} {v : SV} {t : Bool} (m : plB x = true) (m2 : plT x = true) (H : HV X fr σ (eval x X.env) v σ₁) (T : TR X fr σ₁ v t σ₂) : BT X fr σ (PySem.isTrue x X.env (eval x X.env)) t σ₂ :=
  ⟨H.1.trans (T .none).1, trivial, fun w Q E _ S k => wpAny_isTrue_value (H.3 w _ _ trivial S fun w1 x1 S1 x d1 => (T x).3 w1 Q E d1 S1 fun w2 x2 => k w2 (x1.trans H.1.1 x2)) (pl_tst m m2)⟩
theorem tst_not {x : Expr} {p : Pos} {t : Bool} {whole : Sem Value} (H : BT X fr σ (PySem.isTrue x X.env (eval x X.env)) t σ₁) : BT X fr σ (PySem.isTrue (.UnaryOp .Not x p) X.env whole) (!t) σ₁ :=
  ⟨H.1, trivial, fun w Q E _ S k => wpAny_isTrue_Not (H.3 w _ E trivial S fun w1 x1 S1 b e => k w1 x1 S1 _ (congrArg (!·) e))⟩
theorem tsb_ok (H : TsR X I N c) {b : Bool} {l : List IE} : ∀ {m : List Expr} {σ : SS}, (ckEs (ckE X.P N) c l m).den X.G → Ok2 (tsb I X.hd fr b l σ) fun t σ' => BT X fr σ (allTrue (boolOf b) m X.env) t σ' := by
  induction l with
  | nil => exact fun h => ckEs_nil h ▸ .ret ⟨.refl _, trivial, fun w Q E _ S k => by
      cases b with
      | true => exact wpAny_allTrue_And_nil (k w (.refl ..) S _ rfl)
      | false => exact wpAny_allTrue_Or_nil (k w (.refl ..) S _ rfl)⟩
  | cons e l ih =>
    exact fun {m σ} h => ckEs_cons (C := fun m => Ok2 (b2 (I.tst e X.hd fr σ) fun t σ => cond (Bool.xor t b) (some (t, σ)) (tsb I X.hd fr b l σ)) fun t σ' => BT X fr σ (allTrue (boolOf b) m X.env) t σ') h fun y ys h1 h2 =>
      .b2 (H e y fr σ h1) fun t σ2 T => .cond (fun q => .ret ⟨T.1, trivial, fun w Q E _ S k => by
        cases b with
        | true => cases t with
          | true => cases q
          | false => exact wpAny_allTrue_And_cons (T.3 w _ E trivial S fun w1 x1 S1 c e => by cases e; exact k w1 x1 S1 _ rfl)
        | false => cases t with
          | false => cases q
          | true => exact wpAny_allTrue_Or_cons (T.3 w _ E trivial S fun w1 x1 S1 c e => by cases e; exact k w1 x1 S1 _ rfl)⟩) fun q => (ih h2).mono fun r R => ⟨T.1.trans R.1, trivial, fun w Q E _ S k => by
        cases b with
        | true => cases t with
          | false => cases q
          | true => exact wpAny_allTrue_And_cons (T.3 w _ E trivial S fun w1 x1 S1 c e => by cases e; exact R.3 w1 Q E trivial S1 fun w2 x2 => k w2 (x1.trans T.1.1 x2))
        | false => cases t with
          | true => cases q
          | false => exact wpAny_allTrue_Or_cons (T.3 w _ E trivial S fun w1 x1 S1 c e => by cases e; exact R.3 w1 Q E trivial S1 fun w2 x2 => k w2 (x1.trans T.1.1 x2))⟩
theorem tst_bop {op : PySem.BoolOp} {es : List Expr} {p : Pos} {t : Bool} {whole : Sem Value} (H : BT X fr σ (allTrue op es X.env) t σ₁) : BT X fr σ (PySem.isTrue (.BoolOp op es p) X.env whole) t σ₁ :=
  ⟨H.1, trivial, fun w Q E _ S k => wpAny_isTrue_BoolOp (H.3 w Q E trivial S k)⟩
theorem ev_ite {ec ea eb : Expr} {p : Pos} {t : Bool} {r : SV} (H : BT X fr σ (PySem.isTrue ec X.env (eval ec X.env)) t σ₁) (H2 : HV X fr σ₁ (eval (cond t ea eb) X.env) r σ₂) : HV X fr σ (eval (.IfExp ec ea eb p) X.env) r σ₂ :=
  ⟨H.1.trans H2.1, trivial, fun w Q E _ S k => IfExp_ (H.3 w _ E trivial S fun w1 x1 S1 c e => by
    have g := H2.3 w1 Q E trivial S1 fun w2 x2 => k w2 (x1.trans H.1.1 x2)
    cases e
    cases t <;> exact g)⟩
inductive Mt (P : PT) (σ : SS) (i a : Nat) : SV × List SV → Prop
  | fn (C d : Nat) (l : List (Nat × CA)) (es : List (Nat × SV)) (g : Nat) (hi : σ.objs[i]? = some (.inst C d)) (hd : σ.objs[d]? = some (.dict es)) (hl : lk P.classes C = some l) (hn : lk es a = none) (hc : lk l a = some (.fn g)) : Mt P σ i a (.top g, [.ref i])
  | own (C d : Nat) (l : List (Nat × CA)) (es : List (Nat × SV)) (f : SV) (hi : σ.objs[i]? = some (.inst C d)) (hd : σ.objs[d]? = some (.dict es)) (hl : lk P.classes C = some l) (hv : lk es a = some f) (hc : lk l a = none) : Mt P σ i a (f, [])
  | lst (xs : List SV) (hi : σ.objs[i]? = some (.list xs)) (ha : (Nat.beq a n_append || (Nat.beq a n_clear || (Nat.beq a n_extend || Nat.beq a n_sort))) = true) : Mt P σ i a (.blt a, [.ref i])
  | dct (es : List (Nat × SV)) (hi : σ.objs[i]? = some (.dict es)) (ha : Nat.beq a n_get = true) : Mt P σ i a (.blt a, [.ref i])
  | adct (j : Nat) (hi : σ.objs[i]? = some (.adict j)) (ha : Nat.beq a n_get = true) : Mt P σ i a (.blt a, [.ref i])
theorem meth_ok {o : SV} {a : Nat} : Ok (meth P σ o a) fun m => ∃ i, o = .ref i ∧ Mt P σ i a m := .onR fun i hi => by
  cases hi
  refine .on fun so hi => ?_
  cases so with
  | inst C d =>
    refine .bind fun l hl => .onD fun es hd => .opt (fun hn => .bind fun c hc => ?_) fun f hv => .wh fun hc => .ret ⟨i, rfl, .own C d l es f hi hd hl hv (non_of hc)⟩
    cases c with
    | fn g => exact .ret ⟨i, rfl, .fn C d l es g hi hd hl hn hc⟩
    | _ => exact .nil
  | list xs => exact .wh fun h => .ret ⟨i, rfl, .lst xs hi h⟩
  | dict es => exact .wh fun h => .ret ⟨i, rfl, .dct es hi h⟩
  | adict j => exact .wh fun h => .ret ⟨i, rfl, .adct j hi h⟩
  | _ => exact .nil
theorem cmpO_ok {k : Nat} (C : Cs k) (hy : Hy X) (hk : fu k + 1 ≤ X.n) {o : Nat} {a b : SV} : Ok2 (cmpO X.P (run X.P k) X.hd o a b σ) fun t σ' => CmpT X fr σ o a b t σ' :=
  .cond (fun ho => .then (x := meth X.P σ b n___contains__) meth_ok fun m h => .onR fun j hj => by
    obtain ⟨i, e, M⟩ := h
    cases M with
    | fn D d l es g hi hd hl hn hc =>
      refine .on1 fun z hz => .okE ((C X hy (Nat.le_of_succ_le hk)).3 (.top g) [b, a] [] fr σ) fun v σ1 H => ?_
      cases v with
      | bool t =>
        refine .ret fun x y => ⟨H.1, trivial, fun w Q E dd S kc => ?_⟩
        cases Nat.eq_of_beq_eq_true ho
        cases e
        cases dd.2.1
        cases inst_of S hi hd with
        | mk des ep kvs I e p kk nd r lt =>
          have A := ((S.cls hl).12 n___contains__ (by decide)).fn hc
          refine notIn_K S.Fr_ (S.2.5.keeps S.17) I (nm_contains ▸ A.1) A.2 (H.4 w (.ref g) [.ref (w.ρ i), x] [] _ _ S ⟨rfl, trivial⟩ ⟨.cons rfl (.cons dd.1.1 .nil), fun v hv => (List.mem_cons.mp hv).elim (fun q => q ▸ dd.2.2) fun hv => List.mem_singleton.mp hv ▸ dd.1.2⟩ no_KWs fun w1 x1 S1 y1 d1 => ?_)
          cases d1.1
          exact wpAny_truthy_bool (kc w1 x1 S1 _ ⟨rfl, trivial⟩)
      | _ => exact .nil
    | own D d l es f => cases f with
      | top g => exact .on1 fun z hz => nomatch hz
      | _ => exact .nil
    | _ => exact .nil) fun _ => .then (x := cmpV σ o a b) cmp_ok fun t T => .ret T
theorem cmpE_ok {k : Nat} (C : Cs k) (hy : Hy X) (hk : fu k + 1 ≤ X.n) (H : EvR X (run X.P k) N c) {o : Nat} {l r : IE} {x y : Expr} (h1 : (ckE X.P N c l x).den X.G) (h2 : (ckE X.P N c r y).den X.G) :
    Ok2 (cmpE X.P (run X.P k) X.hd fr o l r σ) fun t σ' => ∃ a b σ₁ σ₂, HV X fr σ (eval x X.env) a σ₁ ∧ HV X fr σ₁ (eval y X.env) b σ₂ ∧ CmpT X fr σ₂ o a b t σ' :=
  .okE (H l x fr σ h1) fun a σ1 A => .okE (H r y fr σ1 h2) fun b σ2 B => (cmpO_ok C hy hk).mono fun q K => ⟨a, b, σ1, σ2, A, B, K⟩
theorem soft_dict {h : Heap} {a : Addr} {K : Type} [DecidableEq K] {prog : Program} {w : World} {knd : PySem.KeyKind prog w K} {kvs : List (K × Value)} (x : h.DictOf knd a kvs) : ∀ o, h.get? a = some o → Soft o := fun o e => by
  obtain ⟨o', es, ep, e', _, hd, _⟩ := x
  exact .dict ((congrArg Obj.data (Option.some.inj (e.symm.trans e'))).trans hd)
theorem dd_of {h : Heap} {a : Addr} {K : Type} [DecidableEq K] {prog : Program} {w : World} {knd : PySem.KeyKind prog w K} {kvs : List (K × Value)} (x : h.DictOf knd a kvs) : ∃ o, h.get? a = some o ∧ DD knd kvs o := by
  obtain ⟨⟨oc, od, odt, osl⟩, es, ep, e, ⟨h1, h2, h3⟩, hd, k, p, n⟩ := x
  cases h1; cases h2; cases h3; cases hd
  exact ⟨_, e, .mk es.toList ep k p n⟩
theorem updS (S : At X fr σ w) {i : Nat} {so so' : SObj} (hi : σ.objs[i]? = some so) {h' : Heap} {t : Nat} (hs : Heap.SameBut (w.ρ i) w.s.heap h') (soft : ∀ o, w.s.heap.get? (w.ρ i) = some o → Soft o)
    (oi : OI X.G w.cl w.ρ h' i (w.ρ i) so') (lt : so'.lt σ.objs.length) (le : σ.Le (σ.set i so')) (hh : X.hd = some i → Tbd h' (w.ρ i)) : At X fr (σ.set i so') (w.hp h' t) := upd S hi (fun b o e n => (hs.2 b n).trans e) soft oi lt le hh
theorem At.hdN (S : At X fr σ w) {i : Nat} {so : SObj} (hi : σ.objs[i]? = some so) (n : ∀ C d, so ≠ .exc C d) {C : Prop} (h : X.hd = some i) : C := by
  cases S.14 i h with | mk is _ _ => obtain ⟨D, d, e⟩ := is; exact absurd (Option.some.inj (hi.symm.trans e)) (n D d)
theorem leN {i : Nat} {so so' : SObj} (hi : σ.objs[i]? = some so) (n : ∀ C d, so ≠ .exc C d) : σ.Le (σ.set i so') := .set fun C d e => n C d (Option.some.inj (hi.symm.trans e))
theorem nD {es : List (Nat × SV)} (C d : Nat) : SObj.dict es ≠ .exc C d := (nomatch ·)
theorem nL {es : List SV} (C d : Nat) : SObj.list es ≠ .exc C d := (nomatch ·)
noncomputable def PE (V : Val) (n : Nat) (ρ : Nat → Addr) (e : Nat × SV) (kv : Value × Value) : Prop := An (∃ t, kv.1 = .str (nm e.1) t) (DV V n e.2 ρ kv.2)
theorem lk_has {es : List (Nat × SV)} {e : Nat × SV} (h : e ∈ es) : lk es e.1 ≠ none := by
  induction es with
  | nil => exact absurd h List.not_mem_nil
  | cons a r ih =>
    show cond (Nat.beq a.1 e.1) (some a.2) (lk r e.1) ≠ none
    cases q : Nat.beq a.1 e.1 with
    | true => exact (nomatch ·)
    | false => exact (List.mem_cons.mp h).elim (fun z => absurd (congrArg Prod.fst z.symm) (beq_false q)) ih
theorem nodup_nm {es : List (Nat × SV)} (h : nodupK es = true) : (es.map fun e => nm e.1).Nodup := by
  induction es with
  | nil => exact List.nodup_nil
  | cons e r ih =>
    have a := an_bool (show ((lk r e.1).isNone && nodupK r) = true from h)
    refine List.nodup_cons.mpr ⟨fun m => ?_, ih a.2⟩
    obtain ⟨e', h1, h2⟩ := List.mem_map.mp m
    exact lk_has h1 (nm_inj h2 ▸ non_of a.1)
inductive Crs (G : Gl) (ρ : Nat → Addr) (es : List (Nat × SV)) (ys : List (Value × Value)) : Prop | mk (kvs : List (PySem.Str × Value)) (c : Carries (PySem.strKind G.prog G.w) ys kvs) (r : All2 (EN G.V ρ) es kvs)
theorem crs {n : Nat} {es : List (Nat × SV)} {ys : List (Value × Value)} (h : All2 (PE G.V n ρ) es ys) : Crs G ρ es ys := by
  induction h with
  | nil => exact .mk [] trivial .nil
  | @cons e y es ys a _ ih =>
    cases ih with
    | mk kvs c r =>
      obtain ⟨t, q⟩ := a.1
      exact .mk ((nm e.1, y.2) :: kvs) ⟨q ▸ decide_eq_true rfl, rfl, c⟩ (.cons ⟨rfl, a.2.1⟩ r)
theorem en_keys {es : List (Nat × SV)} {kvs : List (PySem.Str × Value)} (r : All2 (EN V ρ) es kvs) : kvs.map (·.1) = es.map fun e => nm e.1 := by
  induction r with
  | nil => rfl
  | cons a _ ih => exact (congrArg (· :: _) a.1).trans (congrArg (_ :: ·) ih)
inductive PsT (X : Cx) (fr : SFr) (σ : SS) (m : List (Option Expr)) (m2 : List Expr) (es : List (Nat × SV)) (σ' : SS) : Prop | mk (all : m.all (fun x => x.isSome) = true) (l : m.length = m2.length) (l2 : m.length = es.length)
  (h : ∀ p, T3 X fr σ (evalPairs (pairTrees m m2 X.env p)) fr σ' (.val fun ρ ys => All2 (PE X.G.V σ'.objs.length ρ) es ys))
theorem ckEo_cons {rE : CK → IE → Expr → Fo} {e : IE} {l : List IE} {m : List (Option Expr)} {C : List (Option Expr) → Prop} (h : (ckEo rE c (e :: l) m).den G) (k : ∀ x xs, (rE c e x).den G → (ckEo rE c l xs).den G → C (some x :: xs)) : C m :=
  bnE h fun q e1 h => bnE h fun x ex h => un_of e1 ▸ (show C (q.1 :: q.2) from ex.symm ▸ k x q.2 h.1 h.2)
theorem evp_ok (H : EvR X I N c) {ks : List IE} : ∀ {vs : List IE} {m : List (Option Expr)} {m2 : List Expr} {σ : SS}, (ckEo (ckE X.P N) c ks m).den X.G → (ckEs (ckE X.P N) c vs m2).den X.G → Ok2 (evp I X.hd fr ks vs σ) fun es σ' => PsT X fr σ m m2 es σ' := by
  induction ks with
  | nil =>
    exact fun {vs m m2 σ} h h2 => .wh fun hv => by
      cases emp_of h.1
      cases emp_of hv
      cases ckEs_nil h2
      exact .ret ⟨rfl, rfl, rfl, fun p => ⟨.refl _, trivial, fun w Q E _ S k => evalPairs_nil (k w (.refl ..) S [] .nil)⟩⟩
  | cons e ks ih =>
    intro vs m m2 σ h h2
    cases vs with
    | nil => exact .nil
    | cons u vs =>
      refine ckEo_cons (C := fun m => Ok2 (okE (I.ev e X.hd fr σ) fun s σ => onS s fun s => okE (I.ev u X.hd fr σ) fun x σ => b2 (evp I X.hd fr ks vs σ) fun es σ => some ((s, x) :: es, σ)) fun es σ' => PsT X fr σ m m2 es σ') h fun x xs h1' h => ?_
      refine ckEs_cons (C := fun m2 => Ok2 (okE (I.ev e X.hd fr σ) fun s σ => onS s fun s => okE (I.ev u X.hd fr σ) fun x σ => b2 (evp I X.hd fr ks vs σ) fun es σ => some ((s, x) :: es, σ)) fun es σ' => PsT X fr σ (some x :: xs) m2 es σ') h2 fun y ys h1 h2 => ?_
      refine .okE (H e x fr σ h1') fun s σ1 A => .onS fun s hs => .okE (H u y fr σ1 h1) fun v σ2 B => .b2 (ih h h2) fun es σ3 D => .ret ?_
      cases hs
      cases D with
      | mk d1 d2 d3 d4 =>
        refine ⟨d1, congrArg Nat.succ d2, congrArg Nat.succ d3, fun p => ⟨(A.1.trans B.1).trans (d4 p).1, trivial, fun w Q E _ S k => ?_⟩⟩
        exact evalPairs_cons (v := do let x ← eval y X.env; standAt p; pure x) (A.3 w _ _ trivial S fun w1 x1 S1 a da => wpAny_bind (B.3 w1 _ _ trivial S1 fun w2 x2 S2 z dz => wpAny_bind (wpAny_standAt (wpAny_pure ((d4 p).3 w2 _ _ trivial S2 fun w3 x3 S3 zs r =>
          k w3 ((x1.trans A.1.1 x2).trans (A.1.trans B.1).1 x3) S3 _ (.cons ⟨da.1, dz.ext x3.1 (d4 p).1.1⟩ r))))))
theorem pe_lt {n : Nat} {es : List (Nat × SV)} {ys : List (Value × Value)} (h : All2 (PE V n ρ) es ys) : ∀ e ∈ es, e.2.lt n := by
  induction h with
  | nil => exact nil_all
  | cons a _ ih => exact fun e q => (List.mem_cons.mp q).elim (fun q => q ▸ a.2.2) (ih e)
theorem ev_dict0 {p : Pos} : HV X fr σ (eval (.Dict [] [] p) X.env) (.ref σ.objs.length) (σ.new (.dict [])) :=
  ⟨.new, trivial, fun w Q E _ S k => wpAny_Dict_empty (newQ k (.refl ..) (Nat.le_refl _) (new S (fun b o e => Heap.get?_push_of_some _ e) none_size (Heap.get?_push_size _ rfl) (.mk [] (let ⟨o, e, d⟩ := dd_of (Heap.DictOf.new (knd := PySem.strKind X.G.prog X.G.w) w.s.heap); Option.some.inj (e.symm.trans (Heap.get?_push_size _ rfl)) ▸ d) .nil) trivial nil_all))⟩
theorem ev_dict {m : List (Option Expr)} {m2 : List Expr} {p : Pos} {es : List (Nat × SV)} (h0 : m ≠ []) (D : PsT X fr (σ.new (.dict [])) m m2 es σ₁) (he : σ₁.objs[σ.objs.length]? = some (.dict [])) (hn : nodupK es = true) (h15 : es.length ≤ 15) :
    HV X fr σ (eval (.Dict m m2 p) X.env) (.ref σ.objs.length) (σ₁.set σ.objs.length (.dict es)) := by
  cases D with
  | mk d1 d2 d3 d4 =>
    have D := d4 p
    refine ⟨(SS.Le.new.trans D.1).trans (leN he nD), trivial, fun w Q E _ S k => wpAny_Dict_walk (knd := PySem.strKind X.G.prog X.G.w) d1 d2 h0 (d3 ▸ h15) ?_⟩
    have S0 := new (t := w.s.toks) S (so := .dict []) (h' := w.s.heap.push { cls := .type "dict", data := .dict #[] }) (fun b o e => Heap.get?_push_of_some _ e) none_size (Heap.get?_push_size _ rfl) (.mk [] (let ⟨o, e, d⟩ := dd_of (Heap.DictOf.new (knd := PySem.strKind X.G.prog X.G.w) w.s.heap); Option.some.inj (e.symm.trans (Heap.get?_push_size _ rfl)) ▸ d) .nil) trivial nil_all
    refine D.3 _ _ E trivial S0 fun w1 x1 S1 ys r => ?_
    cases crs r with
    | mk kvs c q =>
      have hl : σ.objs.length < (σ.new (.dict [])).objs.length := Nat.lt_of_lt_of_eq (Nat.lt_succ_self _) SS.len_new.symm
      have hρ : w1.ρ σ.objs.length = w.s.heap.objs.size := (x1.1 _ hl).trans grow_eq
      refine S1.dict he fun kv0 hD hA => ?_
      cases hA
      refine ⟨kvs, c, hρ ▸ hD, fun h'' hD' hs => ?_⟩
      rw [merged_nil_of_nodup kvs (en_keys q ▸ nodup_nm hn)] at hD'
      obtain ⟨o, e, d⟩ := dd_of hD'
      exact k _ (((Ex.al (n := σ.objs.length)).trans (Nat.le_refl _) ⟨fun i h => x1.1 i (Nat.lt_trans h hl), x1.2, x1.3, x1.4, x1.5⟩).trans (Nat.le_refl _) .hp) (updS (t := w1.s.toks + ys.length) S1 he (hρ ▸ hs) (soft_dict hD) (.mk o (hρ ▸ e) (.mk kvs d q) trivial) (pe_lt r) (leN he nD) (S1.hdN he nD))
        (.ref w.s.heap.objs.size) ⟨congrArg Value.ref hρ.symm, Nat.lt_of_lt_of_eq (SS.at_lt he) SS.len_set.symm⟩
section
variable {K : Type} [DecidableEq K] {prog : Program} {wd : World} {knd : PySem.KeyKind prog wd K} {p : K × Value} {r : List (K × Value)} {k : K} {v : Value}
theorem stored_hd (h : p.1 = k) (n : k ∉ r.map (·.1)) : stored (p :: r) k v = (p.1, v) :: r := by
  have q : r.map (fun kv => if kv.1 = k then (kv.1, v) else kv) = r := (List.map_congr_left fun x hx => if_neg fun z : x.1 = k => n (z ▸ List.mem_map_of_mem hx)).trans (List.map_id r)
  have a : (p :: r).any (fun kv => decide (kv.1 = k)) = true := by rw [List.any_cons, decide_eq_true h]; rfl
  exact (if_pos a).trans (congrArg₂' (if_pos h) q)
where congrArg₂' {a a' : K × Value} {l l' : List (K × Value)} (h : a = a') (e : l = l') : a :: l = a' :: l' := h ▸ e ▸ rfl
theorem stored_tl (h : p.1 ≠ k) : stored (p :: r) k v = p :: stored r k v := by
  have e : (p :: r).any (fun kv => decide (kv.1 = k)) = r.any (fun kv => decide (kv.1 = k)) := by rw [List.any_cons, decide_eq_false h]; rfl
  unfold stored
  rw [e, List.map_cons, if_neg h]
  cases r.any (fun kv => decide (kv.1 = k)) <;> rfl
omit [DecidableEq K] in
theorem nd_cons {l : List (K × Value)} (h : ((p :: l).map (·.1)).Nodup) : An (p.1 ∉ l.map (·.1)) ((l.map (·.1)).Nodup) := an_of (List.nodup_cons.mp h)
theorem stored_mem {x : K} {l : List (K × Value)} (h : (l.map (·.1)).Nodup) (n : x ≠ k) (m : x ∉ l.map (·.1)) : x ∉ (stored l k v).map (·.1) := by
  induction l with
  | nil => exact fun z => n (List.mem_singleton.mp z)
  | cons p r ih =>
    have a := nd_cons h
    by_cases q : p.1 = k
    · rw [stored_hd q (q ▸ a.1)]; exact m
    · rw [stored_tl q]
      exact fun z => (List.mem_cons.mp z).elim (fun z => m (List.mem_cons.mpr (.inl z))) (ih a.2 fun z => m (List.mem_cons.mpr (.inr z)))
theorem stored_nodup {l : List (K × Value)} (h : (l.map (·.1)).Nodup) : ((stored l k v).map (·.1)).Nodup := by
  induction l with
  | nil => exact List.nodup_cons.mpr ⟨List.not_mem_nil, List.nodup_nil⟩
  | cons p r ih =>
    have a := nd_cons h
    by_cases q : p.1 = k
    · rw [stored_hd q (q ▸ a.1)]; exact h
    · rw [stored_tl q]
      exact List.nodup_cons.mpr ⟨stored_mem a.2 q a.1, ih a.2⟩
theorem stored_ne (l : List (K × Value)) : stored l k v ≠ [] := by
  cases l with
  | nil => exact (nomatch ·)
  | cons p r =>
    unfold stored
    cases (p :: r).any (fun kv => decide (kv.1 = k)) <;> exact (nomatch ·)
end
section
variable {prog : Program} {wd : World}
theorem putL_pairs {es : List DictEntry} {kvs : List (PySem.Str × Value)} (h : Pairs (PySem.strKind prog wd) es kvs) (n : (kvs.map (·.1)).Nodup) (x : PySem.Str) (hsh : Int) (t : Tok) (v : Value) : Pairs (PySem.strKind prog wd) (putL x hsh (.str x t) v es) (stored kvs x v) := by
  induction h with
  | nil => exact .cons (decide_eq_true rfl) rfl .nil
  | @cons e kv es kvs h1 h2 h3 ih =>
    obtain ⟨u, hu⟩ := Value.isStrOf_shape h1
    have hs : e.key.isStr x = decide (kv.1 = x) := by rw [hu]; rfl
    have a := nd_cons n
    by_cases q : kv.1 = x
    · rw [stored_hd q (q ▸ a.1)]
      exact (show putL x hsh (.str x t) v (e :: es) = _ from if_pos (hs.trans (decide_eq_true q))) ▸ .cons h1 rfl h3
    · rw [stored_tl q]
      exact (show putL x hsh (.str x t) v (e :: es) = _ from if_neg (ne_true_of_eq_false (hs.trans (decide_eq_false q)))) ▸ .cons h1 h2 (ih a.2)
theorem putL_mem {p : DictEntry → Prop} {x : PySem.Str} {hsh : Int} {k v : Value} (hn : p ⟨hsh, k, v⟩) (hv : ∀ e, p e → p { e with val := v }) {es : List DictEntry} (h : ∀ e ∈ es, p e) : ∀ e ∈ putL x hsh k v es, p e := by
  induction es with
  | nil => exact fun e q => List.mem_singleton.mp q ▸ hn
  | cons a r ih =>
    have hr := ih fun e q => h e (.tail _ q)
    have ha := h a (.head _)
    show ∀ e ∈ (if a.key.isStr x = true then { a with val := v } :: r else a :: putL x hsh k v r), p e
    cases a.key.isStr x with
    | true => exact fun e q => (List.mem_cons.mp q).elim (fun q => q ▸ hv a ha) fun q => h e (.tail _ q)
    | false => exact fun e q => (List.mem_cons.mp q).elim (fun q => q ▸ ha) (hr e)
theorem putL_keys {es : List DictEntry} (h : KeysOf (PySem.strKind prog wd) es.toArray) (x : PySem.Str) (t : Tok) (v : Value) : KeysOf (PySem.strKind prog wd) (putL x (PyData.keyHash wd.params x) (.str x t) v es).toArray :=
  fun e q => putL_mem (p := fun e => ∃ k, (PySem.strKind prog wd).is k e.key = true ∧ e.hash = (PySem.strKind prog wd).hash k) (hsh := PyData.keyHash wd.params x) (k := .str x t) (v := v) ⟨x, decide_eq_true rfl, rfl⟩ (fun _ h => h) (fun e q => h e (List.mem_toArray.mpr q)) e (List.mem_toArray.mp q)
theorem putL_len {x : PySem.Str} {hsh : Int} {k v : Value} {es : List DictEntry} : (putL x hsh k v es).length ≤ es.length + 1 := by
  induction es with
  | nil => exact Nat.le_refl _
  | cons a r ih =>
    show (if a.key.isStr x = true then { a with val := v } :: r else a :: putL x hsh k v r).length ≤ _
    cases a.key.isStr x with
    | true => exact Nat.le_succ _
    | false => exact Nat.succ_le_succ ih
theorem Pairs.len {K : Type} [DecidableEq K] {knd : PySem.KeyKind prog wd K} {es : List DictEntry} {kvs : List (K × Value)} (h : Pairs knd es kvs) : es.length = kvs.length := h.length
end
theorem put_rel {es : List (Nat × SV)} {kvs : List (PySem.Str × Value)} (h : All2 (EN V ρ) es kvs) (n : (kvs.map (·.1)).Nodup) (a : Nat) {v : SV} {y : Value} (hy : Den V ρ v y) : All2 (EN V ρ) (put es a v) (stored kvs (nm a) y) := by
  induction h with
  | nil => exact .cons ⟨rfl, hy⟩ .nil
  | @cons e kv es kvs h1 h2 ih =>
    have b := nd_cons n
    show All2 (EN V ρ) (cond (Nat.beq e.1 a) ((e.1, v) :: es) (e :: put es a v)) _
    cases q : Nat.beq e.1 a with
    | true =>
      have e1 : kv.1 = nm a := h1.1.trans (congrArg nm (Nat.eq_of_beq_eq_true q))
      rw [stored_hd e1 (e1 ▸ b.1)]
      exact .cons ⟨h1.1, hy⟩ h2
    | false =>
      rw [stored_tl fun z => beq_false q (nm_inj (h1.1.symm.trans z))]
      exact .cons h1 (ih b.2)
theorem put_lt {n : Nat} {v : SV} {a : Nat} (hv : v.lt n) {es : List (Nat × SV)} (h : ∀ e ∈ es, e.2.lt n) : ∀ e ∈ put es a v, e.2.lt n := by
  induction es with
  | nil => exact fun e q => List.mem_singleton.mp q ▸ hv
  | cons b r ih =>
    have hr := ih fun e q => h e (.tail _ q)
    show ∀ e ∈ cond (Nat.beq b.1 a) ((b.1, v) :: r) (b :: put r a v), e.2.lt n
    cases Nat.beq b.1 a with
    | true => exact fun e q => (List.mem_cons.mp q).elim (fun q => q ▸ hv) fun q => h e (.tail _ q)
    | false => exact fun e q => (List.mem_cons.mp q).elim (fun q => q ▸ h b (.head _)) (hr e)
theorem lk_put {α : Type} {v : α} {x y : Nat} (l : List (Nat × α)) : lk (put l x v) y = cond (Nat.beq x y) (some v) (lk l y) := by
  induction l with
  | nil => rfl
  | cons e l ih =>
    show lk (cond (Nat.beq e.1 x) ((e.1, v) :: l) (e :: put l x v)) y = cond (Nat.beq x y) (some v) (cond (Nat.beq e.1 y) (some e.2) (lk l y))
    cases q : Nat.beq e.1 x with
    | true =>
      rw [Nat.eq_of_beq_eq_true q]
      show cond (Nat.beq x y) (some v) (lk l y) = _
      cases Nat.beq x y <;> rfl
    | false =>
      show cond (Nat.beq e.1 y) (some e.2) (lk (put l x v) y) = _
      rw [ih]
      cases a : Nat.beq x y with
      | false => rfl
      | true => cases b : Nat.beq e.1 y with
        | false => rfl
        | true => rw [Nat.eq_of_beq_eq_true b, Nat.eq_of_beq_eq_true a, Nat.beq_refl] at q; cases q
theorem put_keys {v : SV} {a : Nat} {z : PySem.Str} {es : List (Nat × SV)} (h : z = nm a ∨ z ∈ es.map fun e => nm e.1) : z ∈ (put es a v).map fun e => nm e.1 := by
  induction es with
  | nil => exact h.elim (fun h => List.mem_singleton.mpr h) fun h => absurd h List.not_mem_nil
  | cons e r ih =>
    show z ∈ (cond (Nat.beq e.1 a) ((e.1, v) :: r) (e :: put r a v)).map fun e => nm e.1
    cases q : Nat.beq e.1 a with
    | true => exact h.elim (fun h => List.mem_cons.mpr (.inl (h.trans (congrArg nm (Nat.eq_of_beq_eq_true q).symm)))) id
    | false => exact List.mem_cons.mpr (h.elim (fun h => .inr (ih (.inl h))) fun h => (List.mem_cons.mp h).imp id fun h => ih (.inr h))
theorem lkAt_put {es : List (Nat × SV)} {m : PySem.Str → Option Value} {a : Nat} {v : SV} {y : Value} (hy : Den V ρ v y) (h : ∀ z, LkAt V ρ (lk es z) (m (nm z))) (z : Nat) : LkAt V ρ (lk (put es a v) z) (if nm z = nm a then some y else m (nm z)) := by
  rw [lk_put]
  cases q : Nat.beq a z with
  | true => exact (if_pos (congrArg nm (Nat.eq_of_beq_eq_true q).symm)) ▸ ⟨y, rfl, hy⟩
  | false => exact (if_neg fun z => beq_false q (nm_inj z).symm) ▸ h z
noncomputable def SA (X : Cx) (fr : SFr) (σ : SS) (o : SV) (a : Nat) (v : SV) (σ₁ : SS) : Prop := An (σ.Le σ₁) (∀ (w : Wd) x y (Q : Unit → Shared → Prop) (E : Value → Shared → Prop), At X fr σ w → Den X.G.V w.ρ o x → DV X.G.V σ.objs.length v w.ρ y → (∀ w', Ex X.outer σ.objs.length w w' → At X fr σ₁ w' → Q () w'.s) → wpAny X.M X.A (PySem.setAttr x (nm a) y) Q E w.s)
noncomputable def SI (X : Cx) (fr : SFr) (σ : SS) (o k v : SV) (σ₁ : SS) : Prop := An (σ.Le σ₁) (∀ (w : Wd) x kx y (Q : Unit → Shared → Prop) (E : Value → Shared → Prop), At X fr σ w → Den X.G.V w.ρ o x → Den X.G.V w.ρ k kx → DV X.G.V σ.objs.length v w.ρ y → (∀ w', Ex X.outer σ.objs.length w w' → At X fr σ₁ w' → Q () w'.s) → wpAny X.M X.A (PySem.setItem x kx y) Q E w.s)
theorem rowDput_mem {d : Option Nat} {k v : SV} {rs : List Row} : Ok (rowDput d k v rs) fun c => .dput d k v c ∈ rs := .row fun r hr => by
  cases r with
  | dput d' k' v' c => exact .wh fun h => .ret ((of_decide_eq_true (an_bool h).1 : d' = d) ▸ SV.eqb_of (an_bool (an_bool h).2).1 ▸ SV.eqb_of (an_bool (an_bool h).2).2 ▸ hr)
  | _ => exact .nil
noncomputable def IK (e : Int × PySem.Str) (kv : Int × Value) : Prop := An (kv.1 = e.1) (∃ t, kv.2 = .str e.2 t)
theorem dPut_rel {l : List (Int × PySem.Str)} {kvs : List (Int × Value)} (h : All2 IK l kvs) (n : (kvs.map (·.1)).Nodup) (k : Int) (x : PySem.Str) (t : Tok) : All2 IK (dPut l k x) (stored kvs k (.str x t)) := by
  induction h with
  | nil => exact .cons ⟨rfl, t, rfl⟩ .nil
  | @cons e kv es kvs h1 h2 ih =>
    have b := nd_cons n
    show All2 IK (if e.1 = k then (k, x) :: es else e :: dPut es k x) _
    by_cases q : e.1 = k
    · have e1 := h1.1.trans q
      rw [if_pos q, stored_hd e1 (e1 ▸ b.1)]
      exact .cons ⟨e1, t, rfl⟩ h2
    · rw [if_neg q, stored_tl fun z => q (h1.1.symm.trans z)]
      exact .cons h1 (ih b.2)
theorem nd_of {K : Type} [DecidableEq K] {prog : Program} {wd : World} {knd : PySem.KeyKind prog wd K} {h : Heap} {a : Addr} {kvs : List (K × Value)} (x : h.DictOf knd a kvs) : (kvs.map (·.1)).Nodup := by
  obtain ⟨_, _, _, _, _, _, _, _, nd⟩ := x
  exact nd
theorem setNum {i : Nat} {d : Option Nat} {d' : Nat} {so : SObj} {o k v : SV} (ho : o = .ref i) (hi : σ.objs[i]? = some so) (n : ∀ C d, so ≠ .exc C d) (hr : .dput d k v d' ∈ σ.rows) (D : ∀ w, At X fr σ w → ∃ kvs, w.s.heap.DictOf (PySem.intKind X.G.prog X.G.w) (w.ρ i) kvs ∧ All2 IK (dicOf X.G.V d) kvs ∧ kvs.length ≤ 1000) : SI X fr σ o k v (σ.set i (.adict d')) :=
  ⟨leN hi n, fun w x kx y Q E S hx hk hy h => by
    cases ho
    cases hx
    obtain ⟨kvs, hD, hA, hn⟩ := D w S
    cases (S.row hr).1 with
    | mk z tx h1 h2 h3 h4 =>
      obtain ⟨t, rfl⟩ := ival_den h1 hk
      obtain ⟨u, rfl⟩ := sval_den h2 hy.1
      refine wpAny_setItem_pairs (knd := PySem.intKind X.G.prog X.G.w) (k := z) (decide_eq_true rfl) hD (fun h' hD' hs => ?_) (Nat.le_trans hn size_1000)
      have nd : (kvs.map (·.1)).Nodup := nd_of hD
      have hA' := h3 ▸ dPut_rel hA nd z tx u
      obtain ⟨ob, e, dd⟩ := dd_of hD'
      exact h _ .hp (updS (t := w.s.toks + 1) S hi hs (soft_dict hD) (.mk ob e (.mk _ dd hA' (stored_ne _) (hA'.length ▸ h4)) trivial) trivial (leN hi n) (S.hdN hi n))⟩
theorem setItem_ok {o k v : SV} : Ok (setItem σ o k v) (SI X fr σ o k v) := .onR fun i ho => .on fun so hi => by
  cases so with
  | dict es =>
    have rest : Ok (wh es.isEmpty ((rowDput none k v σ.rows).bind fun d => some (σ.set i (.adict d)))) (SI X fr σ o k v) := .wh fun he => .then (x := rowDput none k v σ.rows) rowDput_mem fun d hr => .ret (setNum ho hi nD hr fun w S => S.dict hi fun kvs D r => by
      cases emp_of he
      cases r
      obtain ⟨ob, es', ep, a1, a2, a3, a4, a5, a6⟩ := D
      have z : es' = #[] := by
        cases h5 : es'.toList with
        | nil => exact Array.toList_eq_nil_iff.mp h5
        | cons a r => rw [h5] at a5; cases a5
      cases z
      exact ⟨[], ⟨ob, #[], ep, a1, a2, a3, fun e he => absurd he (Array.not_mem_empty e), .nil, List.nodup_nil⟩, .nil, Nat.zero_le _⟩)
    cases k with
    | str n =>
      refine .wh fun hn => .ret ⟨leN hi nD, fun w x kx y Q E S hx hk hy h => ?_⟩
      cases ho
      cases hx
      obtain ⟨t, rfl⟩ := hk
      refine S.dict hi fun kvs D r => wpAny_setItem_pairs (knd := PySem.strKind X.G.prog X.G.w) (k := nm n) (decide_eq_true rfl) D (fun h' hD' hs => ?_) (Nat.le_trans (r.length ▸ Nat.le_of_ble_eq_true hn) (Nat.le_trans (by decide) size_1000))
      have nd : (kvs.map (·.1)).Nodup := nd_of D
      obtain ⟨ob, e, dd⟩ := dd_of hD'
      exact h _ .hp (updS (t := w.s.toks + 1) S hi hs (soft_dict D) (.mk ob e (.mk _ dd (put_rel r nd n hy.1)) trivial) (put_lt hy.2 (S.ltO hi)) (leN hi nD) (S.hdN hi nD))
    | _ => exact rest
  | adict d => exact .then (x := rowDput (some d) k v σ.rows) rowDput_mem fun d' hr => .ret (setNum ho hi (fun _ _ => (nomatch ·)) hr fun w S => S.at_ hi fun ob e D => by
      cases D with | mk kvs D r ne le => cases D with | mk des ep kk p nd => exact ⟨kvs, ⟨_, des.toArray, ep, e, ⟨rfl, rfl, rfl⟩, rfl, kk, p, nd⟩, r, Nat.le_trans le (by decide)⟩)
  | _ => exact .nil
end
end Mine
namespace Mine
open PySem PySem.W PyProof.Rows PySem.Calls Builtin Builtin.ObjectAttr
section
variable {X : Cx} {I : In} {c : CK} {N : Nat} {fr fr' : SFr} {σ σ' σ₁ σ₂ σ₃ : SS} {w w' : Wd} {V : Val} {ρ : Nat → Addr} {G : Gl} {P : PT}
section
variable {prog : Program} {wd : World} {A : Around} {E : Value → Shared → Prop} {h : Heap} {g : Array GenState} {d : Drawn} {t : Nat} {os : OsState}
variable {nm' q : PySem.Str} {C N x : Addr} {bs bm : List Value} {sn : List PySem.Str} {sub : List Value} {ab : Bool} {col : Option Bool} {dd : Option Addr} {k0 k1 k2 k3 k5 : Option Value} {B newId sa owner : String}
  {mN : PySem.Str → Option Value} {name : PySem.Str} {v : Value}
theorem store_empty {M : Model} {D : Addr} {tk : Tok} {Q : Fin → Shared → Prop} (e : h.get? D = some { cls := .type "dict", data := .dict #[] })
    (hq : ∀ h', (∀ b, b ≠ D → h'.get? b = h.get? b) → h'.Ns1 D (fun y => if y = name then some v else none) → Q (.done (.ret .none)) ⟨h', g, d, t + 1, os⟩) : wpAny M A (storeInDict D (.str name tk) name v) Q E ⟨h, g, d, t, os⟩ :=
  wpAny_bind (wpAny_pure (wpAny_bind (wpAny_nsSet1 (m := fun _ => none) ⟨_, _, _, e, rfl, fun _ q => (nomatch q), .nil, fun _ => rfl⟩ fun h' n k =>
    let ⟨_, _, _, g1, g2, le⟩ := n.count (ns := [name]) fun y q => List.mem_singleton.mpr (Classical.byContradiction fun z => q (if_neg z))
    wpAny_bind (wpAny_lookBehind g1 (g2 ▸ pastItsLine_dict (Nat.le_trans le (Nat.le_add_left ..))) (wpAny_pure (hq h' k.2 n))))))
theorem dict_new {M : Model} {sl : Array (Option Value)} {vs : Array Value} {Q : Option Addr → Shared → Prop} (hC : h.get? C = some (excClassObj nm' q C N bs bm true sn sub ab col dd k0 k1 k2 k3 k5 newId)) (hx : h.get? x = some ⟨.ref C, none, .fields vs, sl⟩)
    (hq : Q (some h.objs.size) ⟨(h.push { cls := .type "dict", data := .dict #[] }).update x fun o => { o with dict := some h.objs.size }, g, d, t, os⟩) : wpAny M A (instanceDict x true) Q E ⟨h, g, d, t, os⟩ :=
  wpAny_bind (wpAny_loadPart hx (wpAny_bind (wpAny_bind (wpAny_load hC (wpAny_pure (show wpAny M A (alloc _ >>= fun d => update x _ >>= fun _ => dictMade (.ref C) x d) Q E _ from
    wpAny_bind (wpAny_alloc (wpAny_bind (wpAny_update (Heap.get?_push_of_some _ hx) (wpAny_pure hq))))))))))
theorem excSet0 {o : Obj} {Q : Unit → Shared → Prop} (SF : StoreFacts B bm sa owner)
    (hC : h.get? C = some (excClassObj nm' q C N bs bm true sn sub ab col dd k0 k1 k2 k3 k5 newId)) (hn : h.Ns N mN) (hns : mN "__setattr__" = none) (hna : mN name = none)
    (hB : typeLookup (.type B) name = pure none) (hx : h.get? x = some o) (hc : o.cls = .ref C) (hcd : ∃ vs, o.data = .fields vs) (hd : o.dict = none)
    (hq : ∀ h' tk dx, h.get? dx = none → (∀ b ob, b ≠ x → h.get? b = some ob → h'.get? b = some ob) → h'.get? x = some { o with dict := some dx } → h'.Ns1 dx (fun y => if y = name then some v else none) → Q () ⟨h', g, d, tk, os⟩) :
    wpAny (model prog wd) A (PySem.setAttr (.ref x) name v) Q E ⟨h, g, d, t, os⟩ := by
  obtain ⟨oc, od, dt, sl⟩ := o
  cases hc
  cases hd
  obtain ⟨vs, rfl⟩ := hcd
  have late : ∀ b ob, h.get? b = some ob → b ≠ h.objs.size := fun b ob e => Nat.ne_of_lt (Heap.lt_size e)
  have own : ∀ {M : Model} {A : Around} {E : Value → Shared → Prop} {Q : Value → Shared → Prop} {t : Nat}, Q (.ref C) ⟨h, g, d, t, os⟩ → wpAny M A (typeOf (.ref x)) Q E ⟨h, g, d, t, os⟩ := fun q => wpAny_typeOf_ref hx q
  have sees : ∀ {n : PySem.Str} {y : Option Value} {M : Model} {A : Around} {E : Value → Shared → Prop} {Q : Option Value → Shared → Prop} {t : Nat}, mN n = none → typeLookup (.type B) n = pure y → Q y ⟨h, g, d, t, os⟩ → wpAny M A (typeLookup (.ref C) n) Q E ⟨h, g, d, t, os⟩ :=
    fun z e q => wpAny_typeLookup_exc hC hn SF.mro e (by rw [z]; exact q)
  refine wpAny_bind (wpAny_mkText (wpAny_bind (m := callSpecial? _ _ _ _) (wpAny_bind (m := specialOf _ _) (wpAny_bind (own (sees hns SF.slot.lookup (wpAny_holding (wpAny_bind (wpAny_of_eq (SF.slot.bind _) (wpAny_bind (wpAny_call (codeAny_call_builtin SF.slot.plain SF.entry (wpAny_check_sa SF hC hx rfl ?_)))))))))))))
  show wpAny _ _ (refuseIfOverridden (.ref x) "__setattr__" >>= fun _ => typeOf (.ref x) >>= fun tp => typeLookup tp name >>= fun attr => _) _ _ _
  rw [refuse_eq]
  refine wpAny_bind (wpAny_bind (own (wpAny_bind (wpAny_mroOf_exc hC (wpAny_of_eq ((refuseLoop_ref ..).trans (SF.passes _)) (wpAny_bind (own (wpAny_bind (sees hna hB (wpAny_bind (wpAny_pure ?_)))))))))))
  refine wpAny_bind (m := ownStreamTells _ _) (wpAny_pure (wpAny_bind (m := instanceDict x true) (dict_new hC hx (store_empty ((Heap.get?_update_ne _ _ _ _ (late x _ hx).symm).trans (Heap.get?_push_size _ rfl)) fun h' k n => ?_))))
  exact wpAny_pure (wpAny_pure (hq h' _ _ none_size (fun b ob ne e => (k b (late b ob e)).trans ((Heap.get?_update_ne _ _ _ _ ne).trans (Heap.get?_push_of_some _ e))) ((k x (late x _ hx)).trans (Heap.get?_update_self _ (Heap.get?_push_of_some _ hx) rfl)) n))
end
theorem AN.keepD {h' : Heap} {d : Addr} {m : PySem.Str → Option Value} {rest : List (Addr × Obj)} (S : At X fr σ w) (F : Fr w.k X.L h' m) (N : News w.k X.L h' rest) (hr : ∀ p ∈ AN w.k X.L w.s.heap, p.1 ≠ d → p ∈ rest) : ∀ b o, w.s.heap.get? b = some o → b ≠ d → b ≠ X.L → h'.get? b = some o := fun b o e hd hL => by
  cases q : w.k.get? b with
  | some o' => exact Option.some.inj ((S.3 b o' q).1.symm.trans e) ▸ F.keep b o' q
  | none => exact (N _ (hr (b, o) (AN.mem.mpr ⟨e, hL, q⟩) hd)).1
theorem notKept (S : At X fr σ w) {i : Nat} {so : SObj} (hi : σ.objs[i]? = some so) : w.k.get? (w.ρ i) = none := by
  cases q : w.k.get? (w.ρ i) with
  | none => rfl
  | some o => cases (S.3 _ o q).2.symm.trans (S.1 i so hi).2
theorem excD_pos {n : Nat} (h : 0 < n) : excD ρ n = some (ρ n) := by cases n with | zero => cases h | succ n => rfl
theorem xd_soft {C d : Nat} {o : Obj} (D : XD ρ C d o) : Soft o := by
  cases D with | mk vs c dd e sz e2 e3 => exact .fields e fun q t z => e3.elim (fun h => nomatch h.symm.trans z) fun ⟨T, h⟩ => nomatch h.symm.trans z
theorem excNew (S : At X fr σ w) {i C tk : Nat} {dx : Addr} {h' : Heap} {es : List (Nat × SV)} {o od : Obj} (hi : σ.objs[i]? = some (.exc C 0)) (hdx : w.s.heap.get? dx = none) (hk : ∀ b o, b ≠ w.ρ i → w.s.heap.get? b = some o → h'.get? b = some o) (ho : w.s.heap.get? (w.ρ i) = some o)
    (ho' : h'.get? (w.ρ i) = some { o with dict := some dx }) (ed : h'.get? dx = some od) (N : ND X.G.V w.ρ es od) (lt : ∀ e ∈ es, e.2.lt σ.objs.length) : At X fr ((σ.new (.edict es)).set i (.exc C σ.objs.length)) (w.al σ.objs.length dx h' tk) := by
  have non := S.non hdx
  have hl := SS.at_lt hi
  have O := S.1 i _ hi
  have le : σ.Le ((σ.new (.edict es)).set i (.exc C σ.objs.length)) := SS.Le.new.trans (.setExc ((SS.new_lt hl).trans hi))
  have hk' : ∀ b o, w.s.heap.get? b = some o → ¬ b = w.ρ i → h'.get? b = some o := fun b o e n => hk b o n e
  have nL := ns_at S.4 fun o e => hk' _ o e fun q => nomatch S.6.symm.trans ((congrArg w.cl q).trans O.2)
  have clE : ∀ b, w.cl b ≠ .non → clUp w.cl dx (.ob σ.objs.length) b = w.cl b := fun b n => clUp_ne fun q => n (q ▸ non)
  have nn : w.cl (w.ρ i) ≠ .non := fun q => nomatch O.2.symm.trans q
  have hρ : grow w.ρ σ.objs.length dx i = w.ρ i := grow_lt i hl
  refine S.at_ hi fun o1 e1 D => ?_
  cases Option.some.inj (ho.symm.trans e1)
  refine move S (fun b => b = w.ρ i) (fun c => c = .ob i) (fun b q => q ▸ O.2) rfl hk' (fun b o1 c e => Option.some.inj (ho.symm.trans (c ▸ e)) ▸ xd_soft D) clE (fun b n c => ?_) le rfl grow_lt (fun j sj q => ?_) (nomatch ·) (nomatch ·) nL
    (ns_at S.5 fun o e => hk' _ o e fun q => absurd (S.7.symm.trans ((congrArg w.cl q).trans O.2)) (by unfold Cx.lc; cases X.lm <;> exact (nomatch ·))) (S.nme grow_lt le rfl) rfl rfl rfl (fun e he c => ?_) fun _ _ => rfl
  · by_cases q : b = dx
    · exact ⟨od, q ▸ ed⟩
    · exact c.elim (fun c => absurd ((clUp_ne q).trans c) n) fun c => ⟨_, c ▸ ho'⟩
  · by_cases z : i = j
    · subst z
      cases Option.some.inj ((SS.set_at (Nat.lt_of_lt_of_le hl SS.Le.new.1)).symm.trans q)
      refine .inr ⟨?_, (congrArg _ hρ).trans ((clE _ nn).trans O.2), Nat.lt_of_lt_of_eq (Nat.lt_succ_self _) (SS.len_set.trans SS.len_new).symm⟩
      cases D with
      | mk vs c dd e sz e2 e3 =>
        refine .mk _ ((congrArg h'.get? hρ).trans ho') (.mk vs c ((congrArg some grow_eq.symm).trans (excD_pos (Nat.lt_of_le_of_lt (Nat.zero_le _) hl)).symm) e sz e2 e3) fun T hT => ?_
        cases O.1 with
        | mk o2 g2 _ x2 =>
          cases Option.some.inj (ho.symm.trans g2)
          cases x2 T hT with | mk oT gT fT cT => exact ⟨oT, hk T oT (fun z => nomatch cT.symm.trans ((congrArg w.cl z).trans O.2)) gT, fT, (clE T fun z => nomatch cT.symm.trans z).trans cT⟩
    · have q' := (SS.set_ne z).symm.trans q
      by_cases y : j < σ.objs.length
      · exact .inl ⟨(SS.new_lt y).symm.trans q', fun c => z (Cl.ob_inj c).symm, (nomatch ·)⟩
      · have hj := SS.at_lt q'
        rw [SS.len_new] at hj
        cases Nat.le_antisymm (Nat.le_of_lt_succ hj) (Nat.le_of_not_lt y)
        cases Option.some.inj (SS.new_at.symm.trans q')
        have g : grow w.ρ σ.objs.length dx σ.objs.length = dx := grow_eq
        exact .inr ⟨⟨od, (congrArg h'.get? g).trans ed, OD.ext (so := .edict es) grow_lt lt N, trivial⟩, (congrArg _ g).trans clUp_eq, SObj.lt_le (o := .edict es) le.1 lt⟩
  · cases Cl.ob_inj c
    cases S.14 i he with
    | mk _ _ t => cases t with
      | mk o3 g3 T f => cases Option.some.inj (ho.symm.trans g3); exact ⟨_, (congrArg h'.get? hρ).trans ho', T, f⟩
theorem sa_inst {i C d a : Nat} {es : List (Nat × SV)} {l : List (Nat × CA)} {v : SV} (ha : a < nAttr) (hi : σ.objs[i]? = some (.inst C d)) (hd : σ.objs[d]? = some (.dict es)) (hl : lk X.P.classes C = some l) (hn : es.length ≤ 900) : SA X fr σ (.ref i) a v (σ.set d (.dict (put es a v))) :=
  ⟨leN hd nD, fun w x y Q E S hx hy h => by
    cases hx
    cases inst_of S hi hd with
    | mk des ep kvs I e p kk nd r lt =>
      have K := S.cls hl
      have dne : w.ρ d ≠ X.L := fun q => nomatch (S.1 d _ hd).2.symm.trans ((congrArg w.cl q).trans S.6)
      have rest : ∀ q ∈ (AN w.k X.L w.s.heap).filter (fun q => decide (q.1 ≠ w.ρ d)), q.1 ≠ w.ρ d := fun q hq => of_decide_eq_true (List.mem_filter.mp hq).2
      refine set_dict S.Fr_ (S.2.5.keeps S.17) (news := (w.ρ d, dictOf des ep) :: (AN w.k X.L w.s.heap).filter fun q => decide (q.1 ≠ w.ρ d)) (fun q hq => (List.mem_cons.mp hq).elim (fun z => z ▸ ⟨e, dne, notKept S hd⟩) fun hq => AN.news q (List.mem_filter.mp hq).1) I rfl K.4 K.5 (K.11 a ha) K.3
        (by rw [getL_of p]; rfl) rfl (.head rest) (Nat.le_trans putL_len (Nat.le_trans (Nat.succ_le_succ (show des.length ≤ 900 from ((Pairs.len p).trans r.length.symm) ▸ hn)) (show 901 ≤ 1000 by decide))) fun h' F' N' => ?_
      exact h _ .hp (updF (t := w.s.toks + 2) S hd (AN.keepD S F' (fun q hq => N' q (.tail _ hq)) fun q hq hne => List.mem_filter.mpr ⟨hq, decide_eq_true hne⟩) F'.ns (fun o q => Option.some.inj (e.symm.trans q) ▸ .dict rfl)
        (.mk _ (N' _ (.head _)).1 (.mk _ (.mk _ _ (putL_keys kk _ _ _) (putL_pairs p nd _ _ _ _) (stored_nodup nd)) (put_rel r nd a hy.1)) trivial) (put_lt hy.2 (S.ltO hd)) (leN hd nD) (S.hdN hd nD))⟩
theorem sa_exc0 {i a : Nat} {v : SV} (hi : σ.objs[i]? = some (.exc 849 0)) (hb : (Nat.beq a n_who || Nat.beq a n_what) = true) : SA X fr σ (.ref i) a v ((σ.new (.edict [(a, v)])).set i (.exc 849 σ.objs.length)) :=
  ⟨SS.Le.new.trans (.setExc ((SS.new_lt (SS.at_lt hi)).trans hi)), fun w x y Q E S hx hy h => by
    cases hx
    refine S.at_ hi fun o e D => ?_
    cases S.pk.4 _ S.K with
    | mk nm' q N bs sn sub ab col dd2 k0 k1 k2 k3 k5 mN e1 n1 i1 no f1 =>
      cases D with
      | mk vs c dd dt _ _ _ =>
        refine excSet0 PySem.F.store_Exception e1 n1 (no _ (.head _)) (no _ (own_in hb)) (lk_own hb) e c ⟨vs, dt⟩ dd fun h' tk dx g1 g2 g3 g4 => ?_
        obtain ⟨od, des, ep, ed, dn, ks, uk, f⟩ := g4
        refine h _ .al (excNew (tk := tk) (es := [(a, v)]) S hi g1 g2 e g3 ed (.mk _ des ep dn ks uk f (fun z => lkAt_put (es := []) (m := fun _ => none) hy.1 (fun _ => rfl) z) fun z hz => ?_) fun e he => List.mem_singleton.mp he ▸ hy.2)
        by_cases q : z = nm a
        · exact List.mem_singleton.mpr q
        · exact absurd (if_neg q) hz⟩
theorem sa_exc {i a d : Nat} {v : SV} {es : List (Nat × SV)} (hi : σ.objs[i]? = some (.exc 849 (d + 1))) (hb : (Nat.beq a n_who || Nat.beq a n_what) = true) (hd : σ.objs[d + 1]? = some (.edict es)) (hn : es.length ≤ 900) : SA X fr σ (.ref i) a v (σ.set (d + 1) (.edict (put es a v))) :=
  have ne : ∀ C d, SObj.edict es ≠ .exc C d := fun _ _ => (nomatch ·)
  ⟨leN hd ne, fun w x y Q E S hx hy h => by
    cases hx
    refine S.at_ hi fun o e D => S.at_ hd fun od ed N0 => ?_
    cases S.pk.4 _ S.K with
    | mk nm' q N bs sn sub ab col dd2 k0 k1 k2 k3 k5 mN e1 n1 i1 no f1 =>
      cases D with
      | mk vs c dd dt _ _ _ => cases N0 with
        | mk m des ep dn kk u f g only =>
          have nid : w.ρ (d + 1) ≠ w.ρ i := fun q => by cases S.inj (SS.at_lt hd) (SS.at_lt hi) q; cases hi.symm.trans hd
          have hx849 : w.ρ i ≠ 849 := fun q => by cases Option.some.inj (e1.symm.trans (q ▸ e)); cases dt
          refine store_attr (ns := es.map fun (e : Nat × SV) => nm e.1) PySem.F.store_Exception e1 n1 (no _ (.head _)) (no _ (own_in hb)) (lk_own hb) hx849 ⟨o, e, c, fun c z => (nomatch dt.symm.trans z), .inr ⟨_, dd, nid, od, des, ep, ed, dn, kk, u, f⟩⟩ (fun h' tk I' hk hsame => ?_) only
            (by rw [List.length_map]; exact Nat.le_trans hn (Nat.le_trans (by decide) size_1000))
          obtain ⟨o1, q1, q2, q3, q4, q5⟩ := hsame o e
          have ho1 : o1 = o := by
            have q6 := (q5 _ dd).trans dd.symm
            cases o; cases o1; cases q2; cases q3; cases q4; cases q6; rfl
          cases ho1
          obtain ⟨o2, r1, r2, r3, r4⟩ := I'
          cases Option.some.inj (q1.symm.trans r1)
          refine r4.elim (fun r4 => nomatch r4.1.symm.trans dd) fun ⟨dx, r4, _, r5⟩ => ?_
          cases Option.some.inj (r4.symm.trans dd)
          obtain ⟨od2, des2, ep2, ed2, dn2, kk2, u2, f2⟩ := r5
          refine h _ .hp (upd (t := tk) S hd (fun b ob eb hb => ?_) (fun ob eo => .dict (Option.some.inj (eo.symm.trans ed) ▸ dn)) (.mk od2 ed2 (.mk _ des2 ep2 dn2 kk2 u2 f2 (lkAt_put hy.1 g) fun z hz => ?_) trivial) (put_lt hy.2 (S.ltO hd)) (leN hd ne) (S.hdN hd ne))
          · by_cases z : b = w.ρ i
            · cases z; exact eb.symm.trans e ▸ q1
            · exact hk b ob z (fun o₀ dx e1 e2 => by cases Option.some.inj (e.symm.trans e1); cases Option.some.inj (dd.symm.trans e2); exact hb) eb
          · by_cases q : z = nm a
            · exact put_keys (.inl q)
            · exact put_keys (.inr (only z fun y => hz ((if_neg q).trans y)))⟩
theorem setAttr_ok {o v : SV} {a : Nat} (ha : a < nAttr) : Ok (setAttr X.P σ o a v) (SA X fr σ o a v) := .onR fun i ho => .on fun so hi => by
  cases ho
  cases so with
  | inst C d => exact .bind fun l hl => .onD fun es hd => .wh fun hn => .ret (sa_inst ha hi hd hl (Nat.le_of_ble_eq_true hn))
  | exc C d =>
    refine .wh fun hb => ?_
    cases Nat.eq_of_beq_eq_true (an_bool hb).1
    cases d with
    | zero => exact .ret (sa_exc0 hi (an_bool hb).2)
    | succ d => exact .onE fun es hd => .wh fun hn => .ret (sa_exc hi (an_bool hb).2 hd (Nat.le_of_ble_eq_true hn))
  | _ => exact .nil
end
end Mine
namespace Mine
open PySem PySem.W PyProof.Rows PySem.Calls
section
variable {X : Cx} {I : In} {c : CK} {N : Nat} {fr fr' : SFr} {σ σ' σ₁ σ₂ σ₃ : SS} {w w' : Wd} {V : Val} {ρ : Nat → Addr} {G : Gl} {P : PT}
section
variable {prog : Program} {wd : World} {A : Around} {E : Value → Shared → Prop} {s : Shared}
noncomputable def HdOK (A : Around) (h : Heap) : Prop := A.handled = none ∨ ∃ b ob vs, A.handled = some (.ref b) ∧ h.get? b = some ob ∧ ob.data = .fields vs ∧ vs[2]? = some .none
theorem entry_unchain : entryFor table "proto.unchain" = some Builtin.«proto.unchain» := entryFor_of_tree (by kernel_rfl)
theorem plain_unchain : plainId "proto.unchain" = true := by decide +kernel
theorem HdOK.keeps {h h' : Heap} (x : HdOK A h) (k : ∀ b o, h.get? b = some o → h'.get? b = some o) : HdOK A h' :=
  x.imp id fun ⟨b, ob, ws, hh, hb, r⟩ => ⟨b, ob, ws, hh, k _ _ hb, r⟩
theorem HdOK.but {h h' : Heap} {it : Addr} (x : HdOK A h) (k : ∀ b o, b ≠ it → h.get? b = some o → h'.get? b = some o) (hn : h.get? it = none) : HdOK A h' :=
  x.imp id fun ⟨b, ob, ws, hh, hb, r⟩ => ⟨b, ob, ws, hh, k _ _ (fun q => by rw [q, hn] at hb; cases hb) hb, r⟩
theorem HdOK.update {h : Heap} {it : Addr} {o : Obj} {vs : Array Value} {g : Obj → Obj} (x : HdOK A h) (hi : h.get? it = some o) (hd : o.data = .fields vs) (h2 : vs[2]? ≠ some .none) : HdOK A (h.update it g) := by
  rcases x with x | ⟨b, ob, ws, hh, hb, hbd, hb2⟩
  · exact .inl x
  · refine .inr ⟨b, ob, ws, hh, (Heap.get?_update_other _ _ fun q => ?_).trans hb, hbd, hb2⟩
    subst q
    rw [hi] at hb; cases hb
    rw [hd] at hbd; cases hbd
    exact h2 hb2
theorem newExc_ok {M : Model} {T : String} {args : List Value} {Q : Value → Shared → Prop} (hf : firstArgMember (.type T) args = pure .none) (hz : args.length ≤ sizeLine) (ho : (ownMembersOf (.type T) args).size < 100)
    (h : ∀ h' e x, (∀ b o, s.heap.get? b = some o → h'.get? b = some o) → s.heap.get? e = none → h'.get? e = some { cls := .type T, data := .fields (#[x, .none, .none, .none, .bool false, .none] ++ ownMembersOf (.type T) args) } → Q (.ref e) { s with heap := h' }) : wpAny M A (newExc (.type T) args) Q E s := by
  refine wpAny_bind (m := newTuple args) (wpAny_newObj_type (wpAny_bind (wpAny_of_eq hf (wpAny_newObj_type (h _ _ _ (fun _ _ q => Heap.get?_push_of_some _ (Heap.get?_push_of_some _ q)) (Heap.get?_none_of_le ?_) (Heap.get?_push_size _ rfl)) ?_))) ?_)
  · exact Heap.size_push .. ▸ Nat.le_succ _
  · show Array.size _ ≤ sizeLine + 2
    simp [sizeLine_eq]; omega
  · show Array.size _ ≤ sizeLine
    simpa using hz
theorem raiseNew_ok {α : Type} {Q : α → Shared → Prop} {a : Addr} {o : Obj} {vs : Array Value} (ha : s.heap.get? a = some o) (hd : o.data = .fields vs) (h2 : 2 < vs.size) (hh : A.handled = none ∨ ∃ b ob ws, A.handled = some (.ref b) ∧ b ≠ a ∧ s.heap.get? b = some ob ∧ ob.data = .fields ws ∧ ws[2]? = some .none)
    (h : ∀ h', (∀ b o, b ≠ a → s.heap.get? b = some o → h'.get? b = some o) → (∃ o', h'.get? a = some o' ∧ o'.cls = o.cls) → E (.ref a) { s with heap := h' }) : wpAny (model prog wd) A (raiseNew (.ref a) : Sem α) Q E s := by
  rcases hh with hh | ⟨b, ob, ws, hh, hne, hb, hbd, hb2⟩
  · exact wpAny_raiseNew_none hh (h s.heap (fun b o _ e => e) ⟨o, ha, rfl⟩)
  · simp only [raiseNew]
    refine wpAny_bind (wpAny_handled ?_)
    rw [hh]
    dsimp only
    rw [if_pos (by simpa using hne)]
    refine wpAny_bind (wpAny_holding (wpAny_runValue (codeAny_builtin entry_unchain ?_)))
    show wpAny _ _ (field (.ref b) 2 >>= _) _ _ _
    refine wpAny_bind (wpAny_field (o := ob) hb hbd hb2 ?_)
    rw [if_pos (by decide)]
    refine wpAny_pure ?_
    show wpAny _ _ (setField (.ref a) 2 (.ref b) >>= _) _ _ _
    refine wpAny_bind (wpAny_setField ha hd h2 (wpAny_throw (h _ (fun c o hc e => (Heap.get?_update_other _ _ (Ne.symm hc)).trans e) ⟨_, Heap.get?_update_self _ ha (Obj.isFreed_of_fields (Obj.data_mapFields hd _)), Obj.cls_mapFields ..⟩)))
theorem raise_ok {α : Type} {g : Array GenState} {d : Drawn} {t : Nat} {os : OsState} {h₀ h' : Heap} {Q : α → Shared → Prop} {e : Addr} {ob : Obj} {vs : Array Value} (hh : HdOK A h₀) (keep : ∀ b o, h₀.get? b = some o → h'.get? b = some o) (new : h₀.get? e = none) (he : h'.get? e = some ob) (hd : ob.data = .fields vs) (sz : 2 < vs.size)
    (h : ∀ h₂, (∀ b o, h₀.get? b = some o → h₂.get? b = some o) → (∃ o', h₂.get? e = some o' ∧ o'.cls = ob.cls) → E (.ref e) ⟨h₂, g, d, t, os⟩) : wpAny (model prog wd) A (raiseNew (.ref e) : Sem α) Q E ⟨h', g, d, t, os⟩ :=
  have ne : ∀ b o, h₀.get? b = some o → b ≠ e := fun b o q z => nomatch (z ▸ q).symm.trans new
  raiseNew_ok he hd sz (hh.imp id fun ⟨b, ob, ws, g, q, r⟩ => ⟨b, ob, ws, g, ne b ob q, keep b ob q, r⟩) fun h₂ k₂ q => h h₂ (fun b o z => k₂ b o (ne b o z) (keep b o z)) q
theorem stop_ok {α : Type} {Q : α → Shared → Prop} (hh : HdOK A s.heap) (h : ∀ h' e, (∀ b o, s.heap.get? b = some o → h'.get? b = some o) → Shared.TypeIs { s with heap := h' } (.ref e) "StopIteration" → E (.ref e) { s with heap := h' }) :
    wpAny (model prog wd) A (newExc (.type "StopIteration") [] >>= fun e => (raiseNew e : Sem α)) Q E s :=
  wpAny_bind (newExc_ok rfl (Nat.zero_le _) (by decide) fun h' e x keep new he => raise_ok hh keep new he rfl (Nat.lt_of_lt_of_le (m := 6) (by decide) (by simp)) fun h₂ k₂ t => h h₂ e k₂ t)
theorem next_stops {T id : String} {b : Builtin} {it : Addr} {Q : Option Value → Shared → Prop} (sl : Slot T "__next__" id) (hT : s.TypeIs (.ref it) T) (en : entryFor table id = some b) (ar : argsOk id ⟨[.ref it], []⟩)
    (hb : wpAny (model prog wd) A.in1 (b ⟨[.ref it], []⟩) (fun _ _ => False) (fun e s' => s'.TypeIs e "StopIteration" ∧ Q none s') s) : wpAny (model prog wd) A (pyNext (.ref it)) Q E s :=
  wpAny_bind (wpAny_attempt (wpAny_callSpecial?_slot hT sl (wpAny_call_entry sl hT en (wpAny_mono hb (fun _ _ q => q.elim) fun _ _ q => wpAny_bind (wpAny_isInstance q.1 isSubtype_stop (wpAny_pure q.2))) ar)))
theorem rd_fld {M : Model} {α : Type} {it : Addr} {o : Obj} {vs : Array Value} {i : Nat} {x : Value} {k : Value → Sem α} {Q : α → Shared → Prop} (ho : s.heap.get? it = some o) (hd : o.data = .fields vs) (hx : vs[i]? = some x) (h : wpAny M A (k x) Q E s) : wpAny M A (field (.ref it) i >>= k) Q E s :=
  wpAny_bind (wpAny_field ho hd hx h)
theorem rising_stops {b : Builtin} {it l i n : Nat} {o ol : Obj} {items : Array Value} {R : Shared → Prop} (hb : b = Builtin.«list_iterator.__next__» ∨ b = Builtin.«tuple_iterator.__next__») (hh : HdOK A s.heap) (ho : s.heap.get? it = some o) (hd : o.data = .fields #[.ref l, .int i 0])
    (hl : s.heap.get? l = some ol) (hi : ol.data = .seq items n) (hx : items[i]? = none) (h : ∀ h', (∀ b o, b ≠ it → s.heap.get? b = some o → h'.get? b = some o) → (∃ o, h'.get? it = some o) → R { s with heap := h' }) :
    wpAny (model prog wd) A (b ⟨[.ref it], []⟩) (fun _ _ => False) (fun e s' => s'.TypeIs e "StopIteration" ∧ R s') s := by
  rcases hb with rfl | rfl <;>
  · refine rd_fld (k := fun _ => _) ho hd rfl ?_
    show wpAny _ _ (field (.ref it) 1 >>= _) _ _ s
    refine rd_fld ho hd rfl ?_
    show wpAny _ _ (seqItems? (.ref l) >>= _) _ _ s
    refine wpAny_bind (wpAny_seqItems hl hi ?_)
    simp only [Int.toNat_natCast, hx]
    refine wpAny_bind (wpAny_rule (wpAny_bind (wpAny_setField ho hd (Nat.zero_lt_succ _) (stop_ok (hh.update ho hd fun q => nomatch q) fun h' e k t => ⟨t, h h' (fun c q hc z => k _ _ ((Heap.get?_update_other _ _ (Ne.symm hc)).trans z)) ?_⟩))))
    exact ⟨_, k _ _ (Heap.get?_update_self _ ho (Obj.isFreed_of_fields (Obj.data_mapFields hd _)))⟩
theorem pyNext_list_end {it l : Addr} {i : Nat} {items} {Q : Option Value → Shared → Prop} (hh : HdOK A s.heap)
    (hit : s.heap.IsListIter it l i) (hl : s.heap.IsList l items) (hx : items[i]? = none)
    (hQ : ∀ h', Heap.ExtBut it s.heap h' → (∃ o, h'.get? it = some o) → Q none { s with heap := h' }) : wpAny (model prog wd) A (pyNext (.ref it)) Q E s :=
  let ⟨_, ho, _, hd⟩ := id hit
  let ⟨_, hol, _, _, hdl⟩ := hl
  next_stops slot_listiter_next hit.typeIs entry_listiter_next (args_listiter_next _) (rising_stops (R := Q none) (.inl rfl) hh ho hd hol hdl hx hQ)
theorem pyNext_tuple_end {it t : Addr} {i : Nat} {items} {Q : Option Value → Shared → Prop} (hh : HdOK A s.heap)
    (hit : s.heap.IsTupleIter it t i) (hl : s.heap.IsTuple t items) (hx : items[i]? = none)
    (hQ : ∀ h', Heap.ExtBut it s.heap h' → Q none { s with heap := h' }) : wpAny (model prog wd) A (pyNext (.ref it)) Q E s :=
  let ⟨_, ho, _, hd⟩ := id hit
  let ⟨_, hol, _, _, hdl⟩ := hl
  next_stops F.slot_tuple_iterator_next hit.typeIs F.entry_tuple_iterator_next (F.args_tuple_iterator_next_1 _) (rising_stops (R := Q none) (.inr rfl) hh ho hd hol hdl hx fun h' k _ => hQ h' k)
theorem pyNext_range_end {it : Addr} {x left step : Int} {Q : Option Value → Shared → Prop} (hh : HdOK A s.heap) (hit : IsRangeIter s.heap it x left step) (hleft : left ≤ 0)
    (hQ : ∀ h', (∀ b o, s.heap.get? b = some o → h'.get? b = some o) → Q none { s with heap := h' }) : wpAny (model prog wd) A (pyNext (.ref it)) Q E s := by
  refine next_stops F.slot_range_iterator_next ⟨_, hit, rfl⟩ F.entry_range_iterator_next (F.args_range_iterator_next_1 _) (rd_fld hit rfl (x := rawInt x) rfl (rd_fld hit rfl (x := rawInt left) rfl (rd_fld hit rfl (x := rawInt step) rfl ?_)))
  show wpAny _ _ (if left ≤ 0 then _ else _) _ _ s
  exact if_pos hleft ▸ wpAny_bind (wpAny_rule (wpAny_bind (stop_ok hh fun h' e k t => ⟨t, hQ h' k⟩)))
theorem draw_all {it t : Addr} {items : Array Value} {Q : List Value → Shared → Prop} (ne : t ≠ it) (hit : s.heap.IsTupleIter it t 0) (ht : s.heap.IsTuple t items) (h : ∀ h', h'.IsTupleIter it t items.size → Heap.SameBut it s.heap h' → Q items.toList { s with heap := h' }) :
    wpAny (model prog wd) A (draw (.ref it) items.size) Q E s :=
  wpAny_draw_tuple ne items.size 0 s Q hit ht (Nat.le_of_eq (Nat.zero_add _)) fun h' a k => (List.take_of_length_le (Nat.le_refl _) : items.toList.take items.size = items.toList).symm ▸ h h' (Nat.zero_add items.size ▸ a) k
theorem unpackItems_tup {t : Addr} {items : Array Value} {Q : List Value → Shared → Prop} (hh : HdOK A s.heap) (ht : s.heap.IsTuple t items)
    (hQ : ∀ h', (∀ b o, s.heap.get? b = some o → h'.get? b = some o) → Q items.toList { s with heap := h' }) : wpAny (model prog wd) A (unpackItems (.ref t) items.size none) Q E s := by
  have old : ∀ b o, s.heap.get? b = some o → b ≠ s.heap.objs.size := fun b o q z => nomatch (z ▸ q).symm.trans none_size
  have ne : t ≠ s.heap.objs.size := let ⟨o, q, _⟩ := ht; old t o q
  refine wpAny_bind (m := notIterableAtAll _) (wpAny_bind (wpAny_specialOf ht.typeIs F.slot_tuple_iter.lookup (wpAny_pure ?_)))
  refine wpAny_bind (m := holding _ (pyIter _)) (wpAny_holding (wpAny_pyIter_tuple ht (wpAny_bind (wpAny_holding (draw_all ne ⟨_, Heap.get?_push_size _ rfl, rfl, rfl⟩ (ht.push _) fun h₁ i₁ s₁ => ?_)))))
  have k₁ : ∀ b o, s.heap.get? b = some o → h₁.get? b = some o := fun b o q => s₁.extBut b o (old b o q) (Heap.get?_push_of_some _ q)
  refine (if_neg (Nat.lt_irrefl _) : (if items.toList.length < items.size then _ else _) = _) ▸ wpAny_bind (wpAny_holding (pyNext_tuple_end (hh.keeps k₁) i₁ ((ht.push _).extBut s₁.extBut ne) (Array.getElem?_eq_none (Nat.le_refl _)) fun h₂ k₂ => ?_))
  exact wpAny_pure (hQ h₂ fun b o q => k₂ b o (old b o q) (k₁ b o q))
end
theorem At.hdok (S : At X fr σ w) : HdOK X.A w.s.heap := by
  cases q : X.hd with
  | none => exact .inl (S.2.18 q)
  | some e => cases S.14 e q with
    | mk is h t =>
      obtain ⟨C, d, hi⟩ := is
      exact S.at_ hi fun o g D => by cases D with | mk vs c dd e1 sz e2 e3 => exact .inr ⟨_, o, vs, h, g, e1, e2⟩
noncomputable def unit_ (_ : Nat → Addr) (_ : Unit) : Prop := True
abbrev St (X : Cx) (fr : SFr) (σ : SS) (v : SV) (t : Value → Sem Unit) (fr' : SFr) (σ' : SS) : Prop := ∀ y, TP X (fun ρ => DV X.G.V σ.objs.length v ρ y) fr σ (t y) fr' σ' (.val unit_)
abbrev Sts (X : Cx) (fr : SFr) (σ : SS) (vs : List SV) (ts : List (Value → Sem Unit)) (fr' : SFr) (σ' : SS) : Prop := ∀ ys, TP X (fun ρ => DVs X.G.V σ.objs.length vs ρ ys) fr σ (assignInOrder ts ys) fr' σ' (.val unit_)
theorem Ok.then2 {α : Type} {x : Option α} {ψ : α → Prop} {k : α → SS} {φ : SFr → SS → Prop} (H : Ok x ψ) (c : ∀ a, ψ a → φ fr (k a)) : Ok2 (x.bind fun a => some (fr, k a)) φ := .then H fun a h => .ret (c a h)
theorem At.put (S : At X fr σ w) {x : Nat} {v : SV} {y : Value} {h' : Heap} {t : Nat} (d : DV X.G.V σ.objs.length v w.ρ y) (hn : h'.Ns X.env.locals fun z => if z = nm x then some y else w.me z) (hs : Heap.SameBut X.env.locals w.s.heap h') :
    At X (fr.put x v) σ (w.nms X (fun z => if z = nm x then some y else w.me z) h' t) := reName S hn hs (fun z u hz => by
  have hz : lk (Mine.put fr.loc x v) z = some u := hz
  rw [lk_put] at hz
  cases q : Nat.beq x z with
  | true => rw [q] at hz; cases hz; exact ⟨d.2, y, if_pos (congrArg nm (Nat.eq_of_beq_eq_true q).symm), d.1⟩
  | false => rw [q] at hz; cases S.8 z u hz with | mk l y e d => exact ⟨l, y, (if_neg fun z => beq_false q (nm_inj z).symm).trans e, d⟩) rfl
theorem fnK (S : At X fr σ w) : (X.env.scope.kind == ScopeKind.class || X.env.scope.kind == ScopeKind.module && X.env.locals != X.env.globals) = false := by rw [S.kind]; rfl
theorem st_loc {x : Nat} {p : Pos} {v : SV} (hx : X.env.scope.names.lookup (nm x) = some .local) : St X fr σ v (assign (.Name (nm x) p) X.env) (fr.put x v) σ := fun y =>
  ⟨.refl _, trivial, fun w Q E d S k => PyProof.Rows.assign_Name (wpAny_storeName_local hx S.5 (fun h' hn hs => k _ .nms (S.put (t := w.s.toks + 1) d hn hs) () trivial) (fnK S))⟩
theorem soft_cell {h : Heap} {a : Addr} {v : Option Value} (x : h.IsCell a v) : ∀ o, h.get? a = some o → Soft o := fun o e => by
  obtain ⟨o', e', d⟩ := x
  cases Option.some.inj (e.symm.trans e')
  exact ⟨fun xs n q => (by rw [q] at d; cases d), fun vs q t e => nomatch e.symm.trans d⟩
theorem cellAt (S : At X fr σ w) {i : Nat} {so : Option SV} (hi : σ.objs[i]? = some (.cell so)) : ∃ z, w.s.heap.IsCell (w.ρ i) z := S.at_ hi fun o e D => by cases D with | mk x d r => exact ⟨x, o, e, d⟩
theorem st_cel {x i : Nat} {p : Pos} {v : SV} {so : Option SV} (hx : X.env.scope.names.lookup (nm x) = some .cell) (hi : lk fr.cel x = some i) (hs : σ.objs[i]? = some (.cell so)) : St X fr σ v (assign (.Name (nm x) p) X.env) fr (σ.set i (.cell (some v))) := fun y =>
  have ne : ∀ C d, SObj.cell so ≠ .exc C d := fun _ _ => (nomatch ·)
  ⟨leN hs ne, trivial, fun w Q E d S k => by
    obtain ⟨z, hz⟩ := cellAt S hs
    refine PyProof.Rows.assign_Name (wpAny_storeName_cell S.kind hx (S.9 x i hi).1 hz fun h' hv hsb => ?_)
    obtain ⟨o, e, dd⟩ := hv
    exact k _ .hp (updS (t := w.s.toks) S hs hsb (soft_cell hz) (.mk o e (.mk _ dd ⟨y, rfl, d.1⟩) trivial) d.2 (leN hs ne) (S.hdN hs ne)) () trivial⟩
theorem st_attr {e : Expr} {a : Nat} {p : Pos} {v o : SV} (H : HV X fr σ (eval e X.env) o σ₁) (A : SA X fr σ₁ o a v σ₂) : St X fr σ v (assign (.Attribute e (nm a) p) X.env) fr σ₂ := fun y =>
  ⟨H.1.trans A.1, trivial, fun w Q E d S k => by
    rw [assign_Attribute]
    refine wpAny_bind (wpAny_holding (H.3 w _ _ trivial S fun w1 x1 S1 x d1 => wpAny_bind (wpAny_standAt (wpAny_bind (wpAny_holding ?_)))))
    exact A.2 w1 x y _ E S1 d1.1 (d.ext x1.1 H.1.1) fun w2 x2 S2 => wpAny_release (k w2 (x1.trans H.1.1 x2) S2 () trivial)⟩
theorem st_sub {e ei : Expr} {p : Pos} {v o kk : SV} (H : HV X fr σ (eval e X.env) o σ₁) (H2 : HV X fr σ₁ (eval ei X.env) kk σ₂) (A : SI X fr σ₂ o kk v σ₃) : St X fr σ v (assign (.Subscript e ei p) X.env) fr σ₃ := fun y =>
  ⟨(H.1.trans H2.1).trans A.1, trivial, fun w Q E d S k => by
    rw [assign_Subscript]
    refine wpAny_bind (wpAny_holding (H.3 w _ _ trivial S fun w1 x1 S1 x d1 => wpAny_bind (wpAny_holding ?_)))
    refine H2.3 w1 _ _ trivial S1 fun w2 x2 S2 ky d2 => wpAny_bind (wpAny_standAt (wpAny_bind (wpAny_holding ?_)))
    exact A.2 w2 x ky y _ E S2 (d1.ext x2.1 H2.1.1).1 d2.1 ((d.ext x1.1 H.1.1).ext x2.1 H2.1.1) fun w3 x3 S3 => wpAny_release (k w3 ((x1.trans H.1.1 x2).trans (H.1.trans H2.1).1 x3) S3 () trivial)⟩
theorem ckNmE {x : Nat} {k : NameKind} {e : Expr} {C : Expr → Prop} (h : (ckNm c x k (vw e)).den G) (K : c.sc.names.lookup (nm x) = some k → ∀ p, C (.Name (nm x) p)) : C e :=
  tgE h fun h => show C (.Name (vw e).s (vw e).p) from (isNm_of h.1 : nm x = (vw e).s) ▸ K ((isNm_of h.1 : nm x = (vw e).s) ▸ isKd_of h.2.1) (vw e).p
theorem attrE {a : Nat} {f : Expr → Fo} {e : Expr} {C : Expr → Prop} (h : (tg (vw e) 7 (.wh (Nat.blt a nAttr) (.wh (isNm a (vw e).s) (f (vw e).y)))).den G) (K : a < nAttr → ∀ y p, (f y).den G → C (.Attribute y (nm a) p)) : C e :=
  tgE h fun h => show C (.Attribute (vw e).y (vw e).s (vw e).p) from (isNm_of h.2.1 : nm a = (vw e).s) ▸ K (Nat.le_of_ble_eq_true h.1) (vw e).y (vw e).p h.2.2
theorem each_ok {t : TG} {e : Expr} {es : List Expr} {env : Env} {rE : CK → IE → Expr → Fo} (h : (ckT1 rE c t (vw e)).den G) : assignEach (e :: es) env = (false, assign e env) :: assignEach es env := by
  cases t with
  | tn x b => exact ckNmE (C := fun e => assignEach (e :: es) env = (false, assign e env) :: assignEach es env) h fun _ _ => rfl
  | ta o a => exact attrE (C := fun e => assignEach (e :: es) env = (false, assign e env) :: assignEach es env) h fun _ _ _ _ => rfl
  | ts o i => exact tgE (C := fun e => assignEach (e :: es) env = (false, assign e env) :: assignEach es env) h fun _ => rfl
  | tt l => exact h.elim
theorem store1_ok (EO : EnvOK c X) (H : EvR X I N c) {t : TG} {e : Expr} {v : SV} (h : (ckT1 (ckE X.P N) c t (vw e)).den X.G) : Ok2 (store1 X.P I X.hd fr t v σ) fun fr' σ' => St X fr σ v (assign e X.env) fr' σ' := by
  cases t with
  | tn x b =>
    refine ckNmE (C := fun e => Ok2 (store1 X.P I X.hd fr (.tn x b) v σ) fun fr' σ' => St X fr σ v (assign e X.env) fr' σ') h fun hk p => ?_
    rw [← EO.1] at hk
    refine .cond (fun hb => .bind fun i hi => .on fun o ho => ?_) fun hb => ?_
    · cases hb
      cases o with
      | cell so => exact .ret (st_cel hk hi ho)
      | _ => exact .nil
    · cases hb; exact .ret (st_loc hk)
  | ta o a => exact attrE (C := fun e => Ok2 (store1 X.P I X.hd fr (.ta o a) v σ) fun fr' σ' => St X fr σ v (assign e X.env) fr' σ') h fun ha y p h => .okE (H o y fr σ h) fun ov σ1 A => .then2 (x := setAttr X.P σ1 ov a v) (setAttr_ok ha) fun σ2 B => st_attr A B
  | ts o i => exact tgE (C := fun e => Ok2 (store1 X.P I X.hd fr (.ts o i) v σ) fun fr' σ' => St X fr σ v (assign e X.env) fr' σ') h fun h => .okE (H o _ fr σ h.1) fun ov σ1 A => .okE (H i _ fr σ1 h.2) fun kv σ2 B => .then2 (x := setItem σ2 ov kv v) setItem_ok fun σ3 D => st_sub A B D
  | tt l => exact h.elim
theorem sts_nil : Sts X fr σ [] [] fr σ := fun ys => ⟨.refl _, trivial, fun w Q E d S k => by
  cases d.1
  exact wpAny_pure (k w (.refl ..) S () trivial)⟩
theorem sts_cons {fr₁ fr₂ : SFr} {v : SV} {vs : List SV} {t : Value → Sem Unit} {ts : List (Value → Sem Unit)} (H : St X fr σ v t fr₁ σ₁) (H2 : Sts X fr₁ σ₁ vs ts fr₂ σ₂) : Sts X fr σ (v :: vs) (t :: ts) fr₂ σ₂ := fun ys =>
  ⟨(H .none).1.trans (H2 []).1, trivial, fun w Q E d S k => by
    have dl := d.2
    cases d.1 with
    | @cons _ y _ ys d1 d2 =>
      exact wpAny_bind (wpAny_holding ((H y).3 w _ _ ⟨d1, dl _ (.head _)⟩ S fun w1 x1 S1 _ _ => (H2 ys).3 w1 _ _ (DVs.ext ⟨d2, fun r hr => dl r (.tail _ hr)⟩ x1.1 (H y).1.1) S1 fun w2 x2 => k w2 (x1.trans (H y).1.1 x2)))⟩
inductive Each (X : Cx) (m : List Expr) (n : Nat) : Prop | mk (len : n = m.length) (e : assignEach m X.env = m.map fun e => (false, assign e X.env))
theorem ckT1s_cons {rE : CK → IE → Expr → Fo} {t : TG} {l : List TG} {m : List Expr} {C : List Expr → Prop} (h : (ckT1s rE c (t :: l) m).den G) (k : ∀ x xs, (ckT1 rE c t (vw x)).den G → (ckT1s rE c l xs).den G → C (x :: xs)) : C m :=
  bnE h fun q e h => un_of e ▸ k q.1 q.2 h.1 h.2
theorem stores_ok (EO : EnvOK c X) (H : EvR X I N c) {l : List TG} : ∀ {m : List Expr} {vs : List SV} {fr : SFr} {σ : SS}, (ckT1s (ckE X.P N) c l m).den X.G → Ok2 (stores X.P I X.hd l vs fr σ) fun fr' σ' => An (Sts X fr σ vs (m.map fun e => assign e X.env) fr' σ') (Each X m vs.length) := by
  induction l with
  | nil =>
    exact fun {m vs fr σ} h => .wh fun hv => by
      cases emp_of h.1
      cases emp_of hv
      exact .ret ⟨sts_nil, rfl, rfl⟩
  | cons t l ih =>
    intro m vs fr σ h
    cases vs with
    | nil => exact .nil
    | cons v vs =>
      refine ckT1s_cons (C := fun m => Ok2 (b2 (store1 X.P I X.hd fr t v σ) fun fr σ => stores X.P I X.hd l vs fr σ) fun fr' σ' => An (Sts X fr σ (v :: vs) (m.map fun e => assign e X.env) fr' σ') (Each X m (vs.length + 1))) h fun x xs h1 h2 => ?_
      exact .b2 (store1_ok EO H h1) fun fr1 σ1 A => (ih h2).mono fun r B => ⟨sts_cons A B.1, congrArg Nat.succ B.2.1, (each_ok h1).trans (congrArg (_ :: ·) B.2.2)⟩
theorem st_tup {es : List Expr} {kk : Nat} {p : Pos} {i : Nat} {xs : List SV} {fr₁ : SFr} (hi : σ.objs[i]? = some (.tup xs)) (A : Each X es xs.length) (H : Sts X fr σ xs (es.map fun e => assign e X.env) fr₁ σ₁) : St X fr σ (.ref i) (assign (.Tuple es kk p) X.env) fr₁ σ₁ := fun y =>
  ⟨(H []).1, trivial, fun w Q E d S k => by
    cases d.1
    refine S.at_ hi fun o g D => ?_
    cases D with
    | mk vs n r =>
      rw [assign_Tuple]
      refine wpAny_bind (wpAny_standAt ?_)
      have e3 : es.length = (List.toArray vs).size := A.1.symm.trans (r.length.trans List.size_toArray.symm)
      have e4 : List.findIdx? (·.1) (es.map fun e => (false, assign e X.env)) = none := List.findIdx?_eq_none_iff.mpr fun q hq => by obtain ⟨e, _, rfl⟩ := List.mem_map.mp hq; rfl
      unfold unpack
      rw [A.2, List.length_map, e4, e3, List.map_map]
      exact wpAny_bind (wpAny_holding (unpackItems_tup S.hdok ⟨_, g, rfl, n, rfl⟩ fun h' hk => (H _).3 (w.hp h' w.s.toks) _ _ ⟨r, S.ltO hi⟩ (keep S hk) fun w1 x1 => k w1 (Ex.hp.trans (Nat.le_refl _) x1)))⟩
theorem store_ok (EO : EnvOK c X) (H : EvR X I N c) {t : TG} {e : Expr} {v : SV} (h : (ckT (ckE X.P N) c t e).den X.G) : Ok2 (store X.P I X.hd t v fr σ) fun fr' σ' => St X fr σ v (assign e X.env) fr' σ' := by
  cases t with
  | tt l =>
    refine tgE (C := fun e => Ok2 (store X.P I X.hd (.tt l) v fr σ) fun fr' σ' => St X fr σ v (assign e X.env) fr' σ') h fun h => .onR fun i hi => .on fun o ho => ?_
    cases hi
    cases o with
    | tup xs => exact (stores_ok EO H h).mono fun r B => st_tup ho B.2 B.1
    | _ => exact .nil
  | tn x b => exact store1_ok (t := .tn x b) EO H h
  | ta o a => exact store1_ok (t := .ta o a) EO H h
  | ts o i => exact store1_ok (t := .ts o i) EO H h
theorem eachT {t : TG} {e : Expr} {es : List Expr} {env : Env} {rE : CK → IE → Expr → Fo} (h : (ckT rE c t e).den G) : assignEach (e :: es) env = (false, assign e env) :: assignEach es env := by
  cases t with
  | tt l => exact tgE (C := fun e => assignEach (e :: es) env = (false, assign e env) :: assignEach es env) h fun _ => rfl
  | tn x b => exact each_ok (rE := rE) (t := .tn x b) h
  | ta o a => exact each_ok (rE := rE) (t := .ta o a) h
  | ts o i => exact each_ok (rE := rE) (t := .ts o i) h
theorem ckTs_cons {rE : CK → IE → Expr → Fo} {t : TG} {l : List TG} {m : List Expr} {C : List Expr → Prop} (h : (ckTs rE c (t :: l) m).den G) (k : ∀ x xs, (ckT rE c t x).den G → (ckTs rE c l xs).den G → C (x :: xs)) : C m :=
  bnE h fun q e h => un_of e ▸ k q.1 q.2 h.1 h.2
theorem storeAll_ok (EO : EnvOK c X) (H : EvR X I N c) {v : SV} {ts : List TG} : ∀ {m : List Expr} {fr : SFr} {σ : SS}, (ckTs (ckE X.P N) c ts m).den X.G → Ok2 (storeAll X.P I X.hd ts v fr σ) fun fr' σ' => St X fr σ v (fun y => assignAll y ((assignEach m X.env).map (·.2))) fr' σ' := by
  induction ts with
  | nil =>
    exact fun {m fr σ} h => by
      cases emp_of h.1
      exact .ret fun y => ⟨.refl _, trivial, fun w Q E d S k => wpAny_pure (k w (.refl ..) S () trivial)⟩
  | cons t l ih =>
    intro m fr σ h
    refine ckTs_cons (C := fun m => Ok2 (b2 (store X.P I X.hd t v fr σ) fun fr σ => storeAll X.P I X.hd l v fr σ) fun fr' σ' => St X fr σ v (fun y => assignAll y ((assignEach m X.env).map (·.2))) fr' σ') h fun x xs h1 h2 => .b2 (store_ok EO H h1) fun fr1 σ1 A => ?_
    rw [eachT h1]
    cases l with
    | nil =>
      cases emp_of h2.1
      exact .ret A
    | cons u us =>
      refine ckTs_cons (C := fun xs => (ckTs (ckE X.P N) c (u :: us) xs).den X.G → Ok2 (storeAll X.P I X.hd (u :: us) v fr1 σ1) fun fr' σ' => St X fr σ v (fun y => assignAll y (((false, assign x X.env) :: assignEach xs X.env).map (·.2))) fr' σ') h2 (fun z zs h3 _ h2 => (ih h2).mono fun r B => ?_) h2
      rw [eachT h3] at B ⊢
      exact fun y => ⟨(A y).1.trans (B y).1, trivial, fun w Q E d S k => wpAny_bind (wpAny_holding ((A y).3 w _ _ d S fun w1 x1 S1 _ _ => (B y).3 w1 _ _ (d.ext x1.1 (A y).1.1) S1 fun w2 x2 => k w2 (x1.trans (A y).1.1 x2)))⟩
section
variable {fr₁ fr₂ : SFr} {fl : Fl}
theorem interactive_fn (S : At X fr σ w) : interactive X.env = false := by unfold interactive; rw [S.kind]; rfl
theorem swaps_none {e : Expr} (m : plB e = true) (h : notComp e = true) (t : Option Expr) (l : Nat) (env : Env) : swapsWith e t l env = pure false := by
  cases e with
  | SetComp => exact Bool.noConfusion m
  | ListComp => exact Bool.noConfusion h
  | DictComp => exact Bool.noConfusion m
  | _ => rfl
theorem ex_pass {p : Pos} : XT X fr σ (PySem.exec (.Pass p) X.env) .next fr σ := ⟨.refl _, trivial, fun w Q E _ S k => wpAny_Pass (k w (.refl ..) S _ rfl)⟩
theorem ex_expr {e : Expr} {p : Pos} {r : Rs} (m : plB e = true) (hc : notComp e = true) (H : VT X fr σ (eval e X.env) r σ₁) : XT X fr σ (PySem.exec (.Expr e p) X.env) (match r with | .ok _ => .next | .exc x => .exc x) fr σ₁ :=
  ⟨H.1, by cases r <;> exact H.2, fun w Q E _ S k => by
    rw [arm_exec_Expr]
    refine wpAny_bind (wpAny_standAt ?_)
    rw [if_neg (by rw [interactive_fn S]; exact Bool.false_ne_true), swaps_none m hc]
    refine wpAny_bind (wpAny_pure ?_)
    rw [if_neg Bool.false_ne_true]
    refine wpAny_bind (H.3 w _ E trivial S fun w1 x1 S1 => ?_)
    cases r with
    | exc x => exact k w1 x1 S1
    | ok v =>
      intro y _
      have q : Q .next w1.s := k w1 x1 S1 _ rfl
      unfold dropValue
      split
      · exact wpAny_pure q
      · exact wpAny_bind (wpAny_standAt (wpAny_bind (wpAny_runValue (codeAny_builtin entry_let_go (show wpAny _ _ (ret .none) _ _ w1.s from wpAny_pure (wpAny_pure q))))))
      · exact wpAny_pure q⟩
theorem ex_ret0 {p : Pos} : XT X fr σ (PySem.exec (.Return none p) X.env) (.ret .none) fr σ := ⟨.refl _, trivial, fun w Q E _ S k => wpAny_Return_none (k w (.refl ..) S _ ⟨_, rfl, rfl, trivial⟩)⟩
theorem ex_ret {e : Expr} {p : Pos} {r : Rs} (H : VT X fr σ (eval e X.env) r σ₁) : XT X fr σ (PySem.exec (.Return (some e) p) X.env) (match r with | .ok v => .ret v | .exc x => .exc x) fr σ₁ :=
  ⟨H.1, by cases r <;> exact H.2, fun w Q E _ S k => wpAny_Return_some (H.3 w _ E trivial S fun w1 x1 S1 => by
    cases r with
    | exc x => exact k w1 x1 S1
    | ok v => exact fun y d => k w1 x1 S1 _ ⟨y, rfl, d⟩)⟩
theorem exs_nil : XT X fr σ (PySem.execs [] X.env) .next fr σ := ⟨.refl _, trivial, fun w Q E _ S k => wpAny_execs_nil (k w (.refl ..) S _ rfl)⟩
theorem exs_more {st : Stmt} {ss : List Stmt} (H : XT X fr σ (PySem.exec st X.env) .next fr₁ σ₁) (H2 : XT X fr₁ σ₁ (PySem.execs ss X.env) fl fr₂ σ₂) : XT X fr σ (PySem.execs (st :: ss) X.env) fl fr₂ σ₂ :=
  ⟨H.1.trans H2.1, H2.2, fun w Q E _ S k => wpAny_execs_cons (H.3 w _ E trivial S fun w1 x1 S1 f e => by cases e; exact H2.3 w1 Q E trivial S1 fun w2 x2 => k w2 (x1.trans H.1.1 x2))⟩
theorem exs_stop {st : Stmt} {ss : List Stmt} (n : fl ≠ .next) (H : XT X fr σ (PySem.exec st X.env) fl fr₁ σ₁) : XT X fr σ (PySem.execs (st :: ss) X.env) fl fr₁ σ₁ :=
  ⟨H.1, H.2, fun w Q E _ S k => wpAny_execs_cons (H.3 w _ E trivial S fun w1 x1 S1 => by
    cases fl with
    | next => exact absurd rfl n
    | ret v => exact fun f e => let ⟨y, e, d⟩ := e; by cases e; exact k w1 x1 S1 _ ⟨y, rfl, d⟩
    | exc x => exact k w1 x1 S1)⟩
theorem ckSs_cons {rS : CK → IS → Stmt → Fo} {s : IS} {l : List IS} {m : List Stmt} {C : List Stmt → Prop} (h : (ckSs rS c (s :: l) m).den G) (k : ∀ x xs, (rS c s x).den G → (ckSs rS c l xs).den G → C (x :: xs)) : C m :=
  bnE h fun q e h => un_of e ▸ k q.1 q.2 h.1 h.2
theorem execs_ok (H : ExR X I N c) {l : List IS} : ∀ {m : List Stmt} {fr : SFr} {σ : SS}, (ckSs (ckS X.P N) c l m).den X.G → Ok3 (execs I X.hd l fr σ) fun fl fr' σ' => XT X fr σ (PySem.execs m X.env) fl fr' σ' := by
  induction l with
  | nil =>
    exact fun {m fr σ} h => by
      cases emp_of h.1
      exact .ret exs_nil
  | cons s l ih =>
    intro m fr σ h
    refine ckSs_cons (C := fun m => Ok3 (b3 (I.exec s X.hd fr σ) fun fl fr σ => match fl with | .next => execs I X.hd l fr σ | fl => some (fl, fr, σ)) fun fl fr' σ' => XT X fr σ (PySem.execs m X.env) fl fr' σ') h fun x xs h1 h2 => .b3 (H s x fr σ h1) fun fl fr1 σ1 A => ?_
    cases fl with
    | next => exact (ih h2).mono fun r B => exs_more A B
    | ret v => exact .ret (exs_stop (nomatch ·) A)
    | exc e => exact .ret (exs_stop (nomatch ·) A)
theorem ex_if {t : Expr} {bs os : List Stmt} {p : Pos} {b : Bool} (H : BT X fr σ (PySem.isTrue t X.env (eval t X.env)) b σ₁) (H2 : XT X fr σ₁ (PySem.execs (cond b bs os) X.env) fl fr₂ σ₂) : XT X fr σ (PySem.exec (.If t bs os p) X.env) fl fr₂ σ₂ :=
  ⟨H.1.trans H2.1, H2.2, fun w Q E _ S k => wpAny_If (H.3 w _ E trivial S fun w1 x1 S1 f e => by
    have g := H2.3 w1 Q E trivial S1 fun w2 x2 => k w2 (x1.trans H.1.1 x2)
    cases e
    cases b <;> exact g)⟩
theorem ex_asgn {ts : List Expr} {e : Expr} {p : Pos} {v : SV} (hs : swapsWithSole ts e p.line X.env = pure false) (hw : swappedStores ts e X.env = pure none) (H : HV X fr σ (eval e X.env) v σ₁) (H2 : St X fr σ₁ v (fun y => assignAll y ((assignEach ts X.env).map (·.2))) fr₁ σ₂) : XT X fr σ (PySem.exec (.Assign ts e p) X.env) .next fr₁ σ₂ :=
  ⟨H.1.trans (H2 .none).1, trivial, fun w Q E _ S k => wpAny_Assign_stores (H.3 w _ E trivial S fun w1 x1 S1 y d => (H2 y).3 w1 _ E d S1 fun w2 x2 S2 _ _ => k w2 (x1.trans H.1.1 x2) S2 _ rfl) hs hw⟩
theorem bindNames {ps : List Nat} : ∀ {vs : List SV} {fr : SFr}, ps.length = vs.length → (∀ q ∈ ps, X.env.scope.names.lookup (nm q) = some .local) → Sts X fr σ vs (ps.map fun q => bindName X.env (nm q)) ⟨putAll ps vs fr.loc, fr.cel⟩ σ := by
  induction ps with
  | nil =>
    exact fun {vs fr} h _ => by
      cases vs with
      | nil => exact sts_nil
      | cons => cases h
  | cons q ps ih =>
    intro vs fr h hl
    cases vs with
    | nil => cases h
    | cons v vs => exact sts_cons (fun y => ⟨.refl _, trivial, fun w Q E d S k => bindName_ (wpAny_storeName_local (hl q (.head _)) S.5 (fun h' hn hs => k _ .nms (S.put (t := w.s.toks + 1) d hn hs) () trivial) (fnK S))⟩) (ih (vs := vs) (fr := fr.put q v) (Nat.succ.inj h) fun z hz => hl z (.tail _ hz))
theorem All2.rev {α β : Type} {R : α → β → Prop} {l : List α} {m : List β} (x : All2 R l m) : All2 R l.reverse m.reverse := by
  induction x with
  | nil => exact .nil
  | cons a _ ih => rw [List.reverse_cons, List.reverse_cons]; exact ih.append (.cons a .nil)
theorem ex_swap {es : List Expr} {kk : Nat} {tp : Pos} {e : Expr} {p : Pos} {xs : List SV} {i : Nat} {ps : List Nat} (hs : swapsWithSole [.Tuple es kk tp] e p.line X.env = pure false) (hw : swappedStores [.Tuple es kk tp] e X.env = pure (some (ps.map nm)))
    (hl : ∀ q ∈ ps, X.env.scope.names.lookup (nm q) = some .local) (hx : ps.length = xs.length) (hi : σ₁.objs[i]? = some (.tup xs)) (H : HV X fr σ (eval e X.env) (.ref i) σ₁) : XT X fr σ (PySem.exec (.Assign [.Tuple es kk tp] e p) X.env) .next ⟨putAll ps.reverse xs.reverse fr.loc, fr.cel⟩ σ₁ :=
  ⟨H.1, trivial, fun w Q E _ S k => Assign_Tuple_swapped (names := ps.map nm) (H.3 w _ E trivial S fun w1 x1 S1 y d => by
    cases d.1
    refine S1.at_ hi fun o g D => ?_
    cases D with
    | mk vs n r =>
      have e3 : (ps.map nm).length = (List.toArray vs).size := (List.length_map ..).trans (hx.trans (r.length.trans List.size_toArray.symm))
      rw [e3]
      refine unpackItems_tup S1.hdok ⟨_, g, rfl, n, rfl⟩ fun h2 hk => ?_
      rw [← List.map_reverse, List.map_map]
      exact (bindNames (X := X) (σ := σ₁) (fr := fr) (ps := ps.reverse) (vs := xs.reverse) (by rw [List.length_reverse, List.length_reverse]; exact hx) (fun q hq => hl q (List.mem_reverse.mp hq)) _).3 (w1.hp h2 w1.s.toks) _ E ⟨r.rev, fun v hv => S1.ltO hi v (List.mem_reverse.mp hv)⟩ (keep S1 hk) fun w3 x3 S3 _ _ => k w3 (x1.trans H.1.1 (Ex.hp.trans (Nat.le_refl _) x3)) S3 _ rfl) hs hw⟩
end
noncomputable def reslot (h h' : Heap) : Heap := ⟨h.objs.mapIdx fun i o => match h'.get? i with | some o' => { o with slots := o'.slots } | none => o, h.life⟩
theorem get_reslot (h h' : Heap) (b : Addr) : (reslot h h').get? b = (h.get? b).map fun o => match h'.get? b with | some o' => { o with slots := o'.slots } | none => o := by
  have e1 : (reslot h h').objs[b]? = (h.objs[b]?).map fun o => match h'.get? b with | some o' => { o with slots := o'.slots } | none => o := Array.getElem?_mapIdx
  generalize h'.get? b = z at e1 ⊢
  unfold Heap.get?
  rw [e1]
  cases h.objs[b]? with
  | none => rfl
  | some o =>
    obtain ⟨c, d, dt, sl⟩ := o
    cases z <;> cases dt <;> rfl
theorem reslot_size (h h' : Heap) : (reslot h h').objs.size = h.objs.size := Array.size_mapIdx
theorem funFrames_out {h base : Heap} {l : List Env} (x : h.FunFrames base l) : ∀ a ∈ l.filterMap (·.frame), base.get? a = none := by
  induction l with
  | nil => exact nil_all
  | cons e r ih =>
    obtain ⟨_, ⟨L, o, hf, hn, _⟩, hr⟩ := x
    rw [List.filterMap_cons, hf]
    exact fun a q => (List.mem_cons.mp q).elim (fun q => q ▸ hn) (ih hr a)
noncomputable def frs (X : Cx) : List Addr := X.L :: X.outer.filterMap (·.frame)
theorem outer_cl (S : At X fr σ w) {b : Addr} (h : b ∈ X.outer.filterMap (·.frame)) : w.cl b = .kept := let ⟨o, _, _, e, _⟩ := S.19 b h; (S.3 b o e).2
theorem frs_cl (S : At X fr σ w) {b : Addr} (h : b ∈ frs X) : w.cl b = .fr ∨ w.cl b = .kept := (List.mem_cons.mp h).elim (fun q => .inl (q ▸ S.6)) fun q => .inr (outer_cl S q)
theorem tbF_soft {o : Obj} (x : TbF o) : Soft o := by cases x with | mk ts d sz n => exact .fields d n
theorem tb_of (S : At X fr σ w) {i C d : Nat} {oe : Obj} (hi : σ.objs[i]? = some (.exc C d)) (e : w.s.heap.get? (w.ρ i) = some oe) {T : Addr} (hT : fldO oe 1 = some (.ref T)) : TbAt w.s.heap w.cl i T := by
  cases (S.1 i _ hi).1 with | mk o g _ x => cases Option.some.inj (e.symm.trans g); exact x T hT
open Classical in
theorem flight (S : At X fr σ w) {i C d tk : Nat} {h' : Heap} {oe oe' : Obj} (hi : σ.objs[i]? = some (.exc C d)) (e1 : w.s.heap.get? (w.ρ i) = some oe) (e2 : h'.get? (w.ρ i) = some oe') (D' : XD w.ρ C d oe')
    (keep : ∀ b o, w.s.heap.get? b = some o → b ∉ frs X → b ≠ w.ρ i → fldO oe 1 ≠ some (.ref b) → h'.get? b = some o) (hfr : ∀ b o, b ∈ frs X → w.s.heap.get? b = some o → ∃ sl, h'.get? b = some { o with slots := sl })
    (hT : ∀ T, fldO oe 1 = some (.ref T) → ∃ oT, h'.get? T = some oT ∧ TbF oT) (hN : ∀ T, fldO oe' 1 = some (.ref T) → (fldO oe 1 = some (.ref T) ∨ w.s.heap.get? T = none) ∧ ∃ oT, h'.get? T = some oT ∧ TbF oT)
    (hno : Tbd w.s.heap (w.ρ i) → Tbd h' (w.ρ i)) : ∃ w', Ex X.outer σ.objs.length w w' ∧ At X fr σ w' ∧ w'.s = { w.s with heap := h', toks := tk } ∧ w'.ρ = w.ρ := by
  have Oi := S.1 i _ hi
  have cT : ∀ T, fldO oe 1 = some (.ref T) → TbAt w.s.heap w.cl i T := fun T h => tb_of S hi e1 h
  let Ch : Addr → Prop := fun b => b ∈ frs X ∨ b = w.ρ i ∨ fldO oe 1 = some (.ref b)
  have chC : ∀ b, Ch b → w.cl b = .fr ∨ w.cl b = .kept ∧ b ∈ X.outer.filterMap (·.frame) ∨ w.cl b = .ob i ∨ w.cl b = .tb i := fun b h => h.elim (fun q => (List.mem_cons.mp q).elim (fun q => .inl (q ▸ S.6)) fun q => .inr (.inl ⟨outer_cl S q, q⟩))
    fun h => .inr (.inr (h.elim (fun q => .inl (q ▸ Oi.2)) fun q => .inr (by cases cT b q with | mk _ _ _ c => exact c)))
  have nCh : ∀ {b c}, w.cl b = c → c ≠ .fr → c ≠ .kept → c ≠ .ob i → c ≠ .tb i → ¬ Ch b := fun {b c} e n1 n2 n3 n4 h => (chC b h).elim (fun q => n1 (e.symm.trans q)) fun h => h.elim (fun q => n2 (e.symm.trans q.1)) fun h => h.elim (fun q => n3 (e.symm.trans q)) fun q => n4 (e.symm.trans q)
  have keepC : ∀ b o, w.s.heap.get? b = some o → ¬ Ch b → h'.get? b = some o := fun b o e n => keep b o e (fun q => n (.inl q)) (fun q => n (.inr (.inl q))) fun q => n (.inr (.inr q))
  have soft : ∀ b o, Ch b → w.s.heap.get? b = some o → Soft o := fun b o h e => h.elim (fun q => (List.mem_cons.mp q).elim (fun q => ns_soft S.4 o (q ▸ e)) fun q => by
      obtain ⟨o', es, n, e', dd⟩ := S.19 b q
      exact .dict (Option.some.inj ((S.3 b o' e').1.symm.trans e) ▸ dd)) fun h => h.elim (fun q => S.at_ hi fun o2 g D => by
      cases Option.some.inj ((q ▸ g : w.s.heap.get? b = some o2).symm.trans e); exact xd_soft D) fun q => by
      cases cT b q with | mk oT g f c => cases Option.some.inj (g.symm.trans e); exact tbF_soft f
  let cl' : Addr → Cl := fun b => if fldO oe' 1 = some (.ref b) then .tb i else w.cl b
  have clE : ∀ b, w.cl b ≠ .non → cl' b = w.cl b := fun b n => by
    by_cases q : fldO oe' 1 = some (.ref b)
    · refine (if_pos q).trans ((hN b q).1.elim (fun q => ?_) fun q => absurd (S.non q) n)
      cases cT b q with | mk _ _ _ c => exact c.symm
    · exact if_neg q
  have clC : ∀ {b c}, w.cl b = c → c ≠ .non → cl' b = c := fun e n => (clE _ (e ▸ n)).trans e
  have keepO : ∀ b o, w.k.get? b = some o → ∃ sl, h'.get? b = some { o with slots := sl } := fun b o e => by
    have q := S.3 b o e
    by_cases z : b ∈ X.outer.filterMap (·.frame)
    · exact hfr b o (.tail _ z) q.1
    · exact ⟨o.slots, keepC b o q.1 fun h => (chC b h).elim (fun y => nomatch q.2.symm.trans y) fun h => h.elim (fun y => z y.2) fun h => h.elim (fun y => nomatch q.2.symm.trans y) fun y => nomatch q.2.symm.trans y⟩
  have keep₀ : ∀ b o, w.k.get? b = some o → b ∉ X.outer.filterMap (·.frame) → h'.get? b = some o := fun b o e z => by
    have q := S.3 b o e
    exact keepC b o q.1 fun h => (chC b h).elim (fun y => nomatch q.2.symm.trans y) fun h => h.elim (fun y => z y.2) fun h => h.elim (fun y => nomatch q.2.symm.trans y) fun y => nomatch q.2.symm.trans y
  have hget : ∀ b o, w.k.get? b = some o → (reslot w.k h').get? b = h'.get? b := fun b o e => by
    obtain ⟨sl, x⟩ := keepO b o e
    rw [get_reslot, e, x]; rfl
  have hnone : ∀ b, w.k.get? b = none → (reslot w.k h').get? b = none := fun b e => by rw [get_reslot, e]; rfl
  have nsS : ∀ {a m}, w.s.heap.Ns a m → a ∈ frs X ∨ ¬ Ch a → h'.Ns a m := fun {a m} x h => by
    obtain ⟨o, es, ep, eo, r⟩ := x
    cases h with
    | inl h => obtain ⟨sl, y⟩ := hfr a o h eo; exact ⟨_, es, ep, y, r⟩
    | inr h => exact ⟨o, es, ep, keepC a o eo h, r⟩
  refine ⟨⟨reslot w.k h', w.ρ, { w.s with heap := h', toks := tk }, cl', w.m, w.me⟩, ⟨fun _ _ => rfl, fun b o e => ?_, hnone, fun b o e n => (hget b o e).trans (keep₀ b o e n), reslot_size ..⟩, ?_, rfl, rfl⟩
  · obtain ⟨sl, x⟩ := keepO b o e
    exact ⟨sl, (hget b o e).trans x⟩
  refine .mk (fun j so e => ?_) S.2 (fun b o e => ?_) (nsS S.4 (.inl (.head _))) ?_ (clC S.6 (nomatch ·)) (clC S.7 fr_lc) (fun x v q => by cases S.8 x v q with | mk l y e d => exact ⟨l, y, e, d⟩) S.9 (fun t ht => ?_) S.11 S.12 S.13 (fun e he => ?_) S.15 ((reslot_size ..).symm ▸ S.16) (fun b o e => ?_) ?_ (fun a ha => ?_) fun b hb => ?_
  · by_cases z : j = i
    · cases z
      cases Option.some.inj (hi.symm.trans e)
      refine ⟨.mk oe' e2 D' fun T q => ?_, clC Oi.2 (nomatch ·), Oi.3⟩
      obtain ⟨oT, g, f⟩ := (hN T q).2
      exact ⟨oT, g, f, if_pos q⟩
    · have O := S.1 j so e
      exact ⟨OI.mv (n := σ.objs.length) (Ch := Ch) keepC soft (fun T t => by
        cases t with | mk o g f c => exact ⟨o, keepC T o g (nCh c (nomatch ·) (nomatch ·) (nomatch ·) fun q => by cases q; exact z rfl), f, clC c (nomatch ·)⟩) (nCh O.2 (nomatch ·) (nomatch ·) (fun q => z (Cl.ob_inj q)) (nomatch ·)) rfl (fun _ _ => rfl) O.3 O.1, clC O.2 (nomatch ·), O.3⟩
  · cases q : w.k.get? b with
    | none => cases (hnone b q).symm.trans e
    | some o₀ => exact ⟨(hget b o₀ q).symm.trans e, clC (S.3 b o₀ q).2 (nomatch ·)⟩
  · rcases S.lc with q | q
    · exact nsS S.5 (.inl (q.2 ▸ .head _))
    · exact nsS S.5 (.inr (nCh (S.7.trans q) (nomatch ·) (nomatch ·) (nomatch ·) (nomatch ·)))
  · have q := S.10 t ht
    exact ⟨q.1.same (Ch := Ch) keepC soft (nCh q.2 (nomatch ·) (nomatch ·) (nomatch ·) (nomatch ·)), clC q.2 (nomatch ·)⟩
  · cases S.14 e he with
    | mk is h t =>
      refine ⟨is, h, ?_⟩
      obtain ⟨D, d2, hj⟩ := is
      by_cases z : e = i
      · cases z; exact hno t
      · cases t with | mk o g T f => exact ⟨o, keepC _ o g (nCh (S.1 e _ hj).2 (nomatch ·) (nomatch ·) (fun q => z (Cl.ob_inj q)) (nomatch ·)), T, f⟩
  · have q := S.17 b o e
    exact (hget b o q).trans (keep₀ b o q fun z => nomatch (funFrames_out S.18 b z).symm.trans e)
  · exact S.18.of_keeps fun b o e _ => let ⟨_, x⟩ := keepO b o e; ⟨_, (hget b o e).trans x, rfl⟩
  · obtain ⟨o, es, n, e, dd⟩ := S.19 a ha
    obtain ⟨sl, x⟩ := keepO a o e
    exact ⟨_, es, n, (hget a o e).trans x, dd⟩
  · by_cases q : fldO oe' 1 = some (.ref b)
    · obtain ⟨oT, g, _⟩ := (hN b q).2
      exact ⟨oT, g⟩
    · obtain ⟨o, g⟩ := S.20 b fun z => hb ((if_neg q).trans z)
      by_cases c : Ch b
      · exact c.elim (fun c => let ⟨_, x⟩ := hfr b o c g; ⟨_, x⟩) fun c => c.elim (fun c => ⟨oe', c ▸ e2⟩) fun c => let ⟨oT, x, _⟩ := hT b c; ⟨oT, x⟩
      · exact ⟨o, keepC b o g c⟩
inductive PU (h h' : Heap) (e : Addr) (oe o : Obj) : Prop | mk (keep : ∀ b x, b ≠ e → h.get? b = some x → h'.get? b = some x) (new : h'.get? h.objs.size = some o) (at_ : h'.get? e = some oe)
theorem pu_of {h : Heap} {e : Addr} {oe o : Obj} {f : Obj → Obj} (he : h.get? e = some oe) (fo : o.isFreed = false) (fe : (f oe).isFreed = false) : PU h ((h.push o).update e f) e (f oe) o :=
  .mk (fun _ _ n q => (Heap.get?_update_other _ _ n.symm).trans (Heap.get?_push_of_some _ q)) ((Heap.get?_update_other _ _ (Nat.ne_of_lt (Heap.lt_size he))).trans (Heap.get?_push_size h fo)) (Heap.get?_update_self _ (Heap.get?_push_of_some _ he) fe)
theorem entry_step {A : Around} {M : Model} {s : Shared} {E : Value → Shared → Prop} {base : Heap} {env : Env} {outer : List Env} {L e : Addr} {oe : Obj} {vs : Array Value} {head : Value} {hadNext : Bool} {Q : Unit → Shared → Prop}
    (hfr : A.frames = some (env :: outer)) (hl : s.heap.FunFrames base (env :: outer)) (hf : env.frame = some L) (he : s.heap.get? e = some oe) (hen : e ∉ (env :: outer).filterMap (·.frame)) (hd : oe.data = .fields vs) (hsz : 1 < vs.size)
    (h : ∀ h' T ts, (∀ b o, s.heap.get? b = some o → b ∉ (env :: outer).filterMap (·.frame) → b ≠ e → h'.get? b = some o) → (∀ b o, b ∈ (env :: outer).filterMap (·.frame) → s.heap.get? b = some o → ∃ sl, h'.get? b = some { o with slots := sl }) →
      s.heap.get? T = none → h'.get? T = some { cls := .type "traceback", dict := none, data := .fields ts } → 3 < ts.size → ts[1]? = some (.ref L) → h'.get? e = some (oe.mapFields (·.setIfInBounds 1 (.ref T))) → Q () { s with heap := h' }) :
    wpAny M A (do setField (.ref e) 1 (← EntryCells.newEntry head (← frameOf env) .none (rawInt L) .none (← entryPlaceOf L hadNext))) Q E s := by
  refine wpAny_bind (wpAny_frameOf_fun hfr hl hf fun h₁ k => wpAny_bind (wpAny_entryPlaceOf fun pl hp => wpAny_bind (m := EntryCells.newEntry _ _ _ _ _ _) (wpAny_newObj_type ?_ (hp.sizeOk5 _ _ _ _ _))))
  have old := (k.2.1 e hen).trans he
  refine wpAny_setField (Heap.get?_push_of_some _ old) hd hsz ?_
  cases pu_of (f := Obj.mapFields (·.setIfInBounds 1 (.ref h₁.objs.size))) old (o := { cls := .type "traceback", dict := none, data := .fields ([head, .ref L, .none, rawInt L, .none] ++ (if pl.isEmpty then List.replicate 6 Value.none else pl)).toArray }) rfl (Obj.isFreed_of_fields (Obj.data_mapFields hd _)) with
  | mk keep new at_ =>
    refine h _ h₁.objs.size _ (fun b o z q n => keep b o n ((k.2.1 b q).trans z)) (fun b o q e' => ?_) ?_ new ?_ rfl at_
    · obtain ⟨sl, x⟩ := k.2.2 b o e'
      exact ⟨sl, keep b _ (fun z => hen (z ▸ q)) x⟩
    · exact Heap.get?_none_of_le (Nat.le_of_eq k.1.symm)
    · rw [List.size_toArray, List.length_append]; exact Nat.lt_of_lt_of_le (by decide) (Nat.le_add_right 5 _)
theorem set1 {vs : Array Value} (h : 4 < vs.size) (x : Value) : (vs.setIfInBounds 1 x)[1]? = some x := by
  rw [Array.getElem?_setIfInBounds, if_pos rfl, if_pos (by omega)]
theorem ref_ne (T : Addr) : (Value.ref T != Value.none) = true := bne_iff_ne.mpr fun z => nomatch z
theorem frs_eq (S : At X fr σ w) : (X.fenv :: X.outer).filterMap (·.frame) = frs X := by rw [List.filterMap_cons, S.2.11]; rfl
theorem At.funFrames (S : At X fr σ w) : w.s.heap.FunFrames X.base (X.fenv :: X.outer) := by
  refine .cons (by rw [S.2.12]; decide) S.2.11 S.4 ?_ (S.18.of_keeps fun b o e _ => ⟨o, (S.3 b o e).1, rfl⟩)
  cases q : X.base.get? X.L with
  | none => rfl
  | some o => exact absurd (Nat.lt_of_lt_of_le (Heap.lt_size (S.17 X.L o q)) S.16) (Nat.lt_irrefl _)
theorem not_frs (S : At X fr σ w) {b : Addr} {cc : Cl} (h : w.cl b = cc) (n1 : cc ≠ .fr) (n2 : cc ≠ .kept) : b ∉ frs X := fun q => (frs_cl S q).elim (fun q => n1 (h.symm.trans q)) fun q => n2 (h.symm.trans q)
theorem mapF_dict {o : Obj} {g} : (Obj.mapFields g o).dict = o.dict := by obtain ⟨c, d, dt, sl⟩ := o; cases dt <;> rfl
theorem fld_of {o : Obj} {vs : Array Value} {i : Nat} (h : o.data = .fields vs) : fldO o i = vs[i]? := by unfold fldO; rw [h]
theorem xd_set {C d : Nat} {oe : Obj} {vs : Array Value} {T : Addr} (c : oe.cls = .ref C) (dd : oe.dict = excD ρ d) (e : oe.data = .fields vs) (sz : 4 < vs.size) (e2 : vs[2]? = some .none) : XD ρ C d (oe.mapFields (·.setIfInBounds 1 (.ref T))) :=
  .mk _ ((Obj.cls_mapFields ..).trans c) (mapF_dict.trans dd) (Obj.data_mapFields e _) (Nat.lt_of_lt_of_eq sz Array.size_setIfInBounds.symm) ((Array.getElem?_setIfInBounds_ne (by decide)).trans e2) (.inr ⟨T, set1 sz _⟩)
theorem fld_set {oe : Obj} {vs : Array Value} {T T' : Addr} (e : oe.data = .fields vs) (sz : 4 < vs.size) (h : fldO (oe.mapFields (·.setIfInBounds 1 (.ref T))) 1 = some (.ref T')) : T' = T := by
  rw [fld_of (Obj.data_mapFields e _), set1 sz] at h; cases h; rfl
theorem noteFrame_ok {M : Model} {A : Around} {E : Value → Shared → Prop} (S : At X fr σ w) {i C d : Nat} (hi : σ.objs[i]? = some (.exc C d)) (hfe : X.env = X.fenv) (hA : A.frames = X.A.frames) {Q : Unit → Shared → Prop}
    (k : ∀ w', Ex X.outer σ.objs.length w w' → At X fr σ w' → w'.ρ = w.ρ → Tbd w'.s.heap (w.ρ i) → Q () w'.s) : wpAny M A (noteFrame (.ref (w.ρ i)) X.env) Q E w.s := by
  refine S.at_ hi fun oe e1 D => ?_
  cases D with
  | mk vs c dd e2 e3 e4 e5 =>
    have hfr : A.frames = some (X.env :: X.outer) := by rw [hA, S.2.10, hfe]
    have hL := hfe ▸ S.funFrames
    have hfrs : (X.env :: X.outer).filterMap (·.frame) = frs X := hfe ▸ frs_eq S
    have nen := not_frs S (S.1 i _ hi).2 (nomatch ·) (nomatch ·)
    have hen : w.ρ i ∉ (X.env :: X.outer).filterMap (·.frame) := hfrs ▸ nen
    unfold noteFrame
    rw [S.2.13]
    rcases e5 with e5 | ⟨T, q1⟩
    · refine wpAny_bind (wpAny_field e1 e2 e5 ?_)
      rw [if_neg (by decide)]
      refine entry_step hfr hL S.2.13 e1 hen e2 (Nat.lt_of_le_of_lt (by decide) e3) fun h' T ts k1 k2 k3 k4 k5 k6 k7 => ?_
      rw [hfrs] at k1 k2
      have noT : ∀ T', fldO oe 1 ≠ some (.ref T') := fun T' z => by rw [fld_of e2, e5] at z; cases z
      obtain ⟨w', x, S', es, eρ⟩ := flight (tk := w.s.toks) S hi e1 k7 (xd_set c dd e2 e3 e4) (fun b o e hb hbe _ => k1 b o e hb hbe) k2 (fun T' z => absurd z (noT T')) (fun T' z => fld_set e2 e3 z ▸ ⟨.inr k3, _, k4, ts, rfl, k5, fun q t z => nomatch k6.symm.trans z⟩) fun _ => ⟨_, k7, T, (fld_of (Obj.data_mapFields e2 _)).trans (set1 e3 _)⟩
      exact es ▸ k w' x S' eρ (es.symm ▸ ⟨_, k7, T, (fld_of (Obj.data_mapFields e2 _)).trans (set1 e3 _)⟩)
    · refine wpAny_bind (wpAny_field e1 e2 q1 ?_)
      rw [if_pos (ref_ne T)]
      have fT : fldO oe 1 = some (.ref T) := (fld_of e2).trans q1
      have isT : ∀ T', fldO oe 1 = some (.ref T') → T' = T := fun T' z => by cases fT.symm.trans z; rfl
      cases tb_of S hi e1 fT with
      | mk oT q2 fo cT => cases fo with
        | mk ts q3 q4 q5 =>
          refine wpAny_bind (wpAny_field q2 q3 (Array.getElem?_eq_getElem q4) ?_)
          by_cases hfl : (ts[3] == rawInt X.L) = true
          · rw [if_pos hfl]
            exact wpAny_pure (k w (.refl ..) S rfl ⟨oe, e1, T, fT⟩)
          · rw [if_neg hfl]
            refine wpAny_bind (wpAny_setField q2 q3 q4 ?_)
            have other : ∀ b, b ≠ T → (w.s.heap.update T (Obj.mapFields (·.setIfInBounds 3 Value.none))).get? b = w.s.heap.get? b := fun b hb => Heap.get?_update_other _ _ (Ne.symm hb)
            have hTi : w.ρ i ≠ T := fun z => nomatch (S.1 i _ hi).2.symm.trans ((congrArg w.cl z).trans cT)
            have nT := not_frs S cT (nomatch ·) (nomatch ·)
            have hTd : (Obj.mapFields (·.setIfInBounds 3 Value.none) oT).data = .fields (ts.setIfInBounds 3 .none) := Obj.data_mapFields q3 _
            have hTs := Heap.get?_update_self (Obj.mapFields (·.setIfInBounds 3 Value.none)) q2 (Obj.isFreed_of_fields hTd)
            refine entry_step (base := X.base) hfr (hL.of_keeps fun b o hb hnf => ⟨o, (other b fun q => ?_).trans hb, rfl⟩) S.2.13 ((other _ hTi).trans e1) hen e2 (Nat.lt_of_le_of_lt (by decide) e3) fun h' T' ts' k1 k2 k3 k4 k5 k6 k7 => ?_
            · cases q; cases Option.some.inj (q2.symm.trans hb); exact hnf _ q3
            rw [hfrs] at k1 k2
            have hT' : w.s.heap.get? T' = none := by
              by_cases z : T' = T
              · cases z; cases hTs.symm.trans k3
              · exact (other T' z).symm.trans k3
            obtain ⟨w', x, S', es, eρ⟩ := flight (tk := w.s.toks) S hi e1 k7 (xd_set c dd e2 e3 e4) (fun b o e hb hbe hbT => k1 b o ((other b fun z => hbT (z ▸ fT)).trans e) hb hbe) (fun b o hb e => k2 b o hb ((other b fun z => nT (z ▸ hb)).trans e))
              (fun T'' z => isT T'' z ▸ ⟨_, k1 _ _ hTs nT (Ne.symm hTi), _, hTd, Nat.lt_of_lt_of_eq q4 Array.size_setIfInBounds.symm, fun q t z => q5 q t ((Array.getElem?_setIfInBounds_ne (by decide)).symm.trans z)⟩)
              (fun T'' z => fld_set e2 e3 z ▸ ⟨.inr hT', _, k4, ts', rfl, k5, fun q t z => nomatch k6.symm.trans z⟩) fun _ => ⟨_, k7, T', (fld_of (Obj.data_mapFields e2 _)).trans (set1 e3 _)⟩
            exact es ▸ k w' x S' eρ (es.symm ▸ ⟨_, k7, T', (fld_of (Obj.data_mapFields e2 _)).trans (set1 e3 _)⟩)
theorem setFlight_ok {M : Model} {A : Around} {E : Value → Shared → Prop} (S : At X fr σ w) {i C d : Nat} (hi : σ.objs[i]? = some (.exc C d)) {fl : Option Addr} {Q : Unit → Shared → Prop}
    (k : ∀ w', Ex X.outer σ.objs.length w w' → At X fr σ w' → w'.ρ = w.ρ → (Tbd w.s.heap (w.ρ i) → Tbd w'.s.heap (w.ρ i)) → Q () w'.s) : wpAny M A (setFlight (.ref (w.ρ i)) fl) Q E w.s := by
  refine S.at_ hi fun oe e1 D => ?_
  cases D with
  | mk vs c dd e2 e3 e4 e5 =>
    unfold setFlight
    rcases e5 with e5 | ⟨T, q1⟩
    · refine wpAny_bind (wpAny_field e1 e2 e5 ?_)
      rw [if_neg (by decide)]
      exact wpAny_pure (k w (.refl ..) S rfl id)
    · refine wpAny_bind (wpAny_field e1 e2 q1 ?_)
      rw [if_pos (ref_ne T)]
      have fT : fldO oe 1 = some (.ref T) := (fld_of e2).trans q1
      have isT : ∀ T', fldO oe 1 = some (.ref T') → T' = T := fun T' z => by cases fT.symm.trans z; rfl
      cases tb_of S hi e1 fT with
      | mk oT q2 fo cT => cases fo with
        | mk ts q3 q4 q5 =>
          generalize (fl.elim Value.none fun f => rawInt f) = v
          refine wpAny_setField q2 q3 q4 ?_
          have other : ∀ b, b ≠ T → (w.s.heap.update T (Obj.mapFields (·.setIfInBounds 3 v))).get? b = w.s.heap.get? b := fun b hb => Heap.get?_update_other _ _ (Ne.symm hb)
          have hTi : w.ρ i ≠ T := fun z => nomatch (S.1 i _ hi).2.symm.trans ((congrArg w.cl z).trans cT)
          have nT := not_frs S cT (nomatch ·) (nomatch ·)
          have hTd : (Obj.mapFields (·.setIfInBounds 3 v) oT).data = .fields (ts.setIfInBounds 3 v) := Obj.data_mapFields q3 _
          have hTs := Heap.get?_update_self (Obj.mapFields (·.setIfInBounds 3 v)) q2 (Obj.isFreed_of_fields hTd)
          have hTF : TbF (Obj.mapFields (·.setIfInBounds 3 v) oT) := ⟨_, hTd, Nat.lt_of_lt_of_eq q4 Array.size_setIfInBounds.symm, fun q t z => q5 q t ((Array.getElem?_setIfInBounds_ne (by decide)).symm.trans z)⟩
          have hti : Tbd (w.s.heap.update T (Obj.mapFields (·.setIfInBounds 3 v))) (w.ρ i) := ⟨oe, (other _ hTi).trans e1, T, fT⟩
          obtain ⟨w', x, S', es, eρ⟩ := flight (tk := w.s.toks) S hi e1 ((other _ hTi).trans e1) (.mk vs c dd e2 e3 e4 (.inr ⟨T, q1⟩)) (fun b o e hb hbe hbT => (other b fun z => hbT (z ▸ fT)).trans e) (fun b o hb e => ⟨o.slots, (other b fun z => nT (z ▸ hb)).trans e⟩)
            (fun T'' z => by cases isT T'' z; exact ⟨_, hTs, hTF⟩) (fun T'' z => by cases isT T'' z; exact ⟨.inl fT, _, hTs, hTF⟩) fun _ => hti
          exact es ▸ k w' x S' eρ fun _ => es.symm ▸ hti
theorem back_ok {M : Model} {A : Around} {E : Value → Shared → Prop} (S : At X fr σ w) {i C d : Nat} (hi : σ.objs[i]? = some (.exc C d)) (t : Tbd w.s.heap (w.ρ i)) (k : ∀ w', Ex X.outer σ.objs.length w w' → At X fr σ w' → w'.ρ = w.ρ → E (.ref (w.ρ i)) w'.s) : cameBackBy M A X.env E (.ref (w.ρ i)) w.s := by
  refine S.at_ hi fun oe e1 D => ?_
  cases D with
  | mk vs c dd e2 e3 e4 e5 => cases t with
    | mk o e T f =>
      cases Option.some.inj (e1.symm.trans e)
      refine wpAny_bind (wpAny_field e1 e2 ((fld_of e2).symm.trans f) ?_)
      rw [if_neg (by exact Bool.false_ne_true)]
      exact setFlight_ok S hi fun w' x S' eρ _ => k w' x S' eρ
theorem noted_ok {M : Model} {A A' : Around} {E : Value → Shared → Prop} (S : At X fr σ w) {i C d : Nat} (hi : σ.objs[i]? = some (.exc C d)) (hfe : X.env = X.fenv) (hA : A.frames = X.A.frames) (k : ∀ w', Ex X.outer σ.objs.length w w' → At X fr σ w' → w'.ρ = w.ρ → E (.ref (w.ρ i)) w'.s) :
    notedBy M A X.env (fun e s' => cameBackBy M A' X.env E e s') (.ref (w.ρ i)) w.s :=
  noteFrame_ok S hi hfe hA fun w1 x1 S1 e1 t => (congrArg (fun z : Nat → Addr => Value.ref (z i)) e1) ▸ back_ok (A := A') S1 hi ((congrArg (fun z : Nat → Addr => z i) e1).symm ▸ t) fun w2 x2 S2 e2 => (congrArg (fun z : Nat → Addr => Value.ref (z i)) e1).symm ▸ k w2 (x1.trans (Nat.le_refl _) x2) S2 (e2.trans e1)
section
variable {fr₁ fr₂ : SFr} {fl : Fl} {it : Nat}
noncomputable def ovP (X : Cx) (n : Nat) (ov : Option SV) (w : Wd) (o : Option Value) : Prop := match ov with | none => o = none | some v => ∃ y, o = some y ∧ DV X.G.V n v w.ρ y
noncomputable def NX (X : Cx) (fr : SFr) (σ : SS) (it : Nat) (ov : Option SV) (σ' : SS) : Prop := An (σ.Le σ') (∀ (w : Wd) (Q : Option Value → Shared → Prop) (E : Value → Shared → Prop), At X fr σ w → (∀ o w', Ex X.outer σ.objs.length w w' → At X fr σ' w' → ovP X σ'.objs.length ov w' o → Q o w'.s) → wpAny X.M X.A (pyNext (.ref (w.ρ it))) Q E w.s)
theorem nI {l i : Nat} (C d : Nat) : SObj.iter l i ≠ .exc C d := (nomatch ·)
theorem nR {l i : Int} (C d : Nat) : SObj.riter l i ≠ .exc C d := (nomatch ·)
theorem next_ok : Ok2 (next σ it) fun ov σ' => NX X fr σ it ov σ' := .on fun o hi => by
  cases o with
  | iter l i =>
    refine .onL fun xs hl => ?_
    have base : ∀ w, At X fr σ w → w.s.heap.IsListIter (w.ρ it) (w.ρ l) i ∧ ∀ o, w.s.heap.get? (w.ρ it) = some o → Soft o := fun w S => S.at_ hi fun o e D => by
      cases D with | mk c d => exact ⟨⟨o, e, c, d⟩, fun o' e' => Option.some.inj (e.symm.trans e') ▸ .fields d fun q t z => nomatch z⟩
    refine .opt (fun hn => .ret ⟨leN hi nI, fun w Q E S k => ?_⟩) fun v hv => .ret ⟨leN hi nI, fun w Q E S k => ?_⟩
    · cases S.list hl with
      | mk vs m e L r =>
        refine pyNext_list_end S.hdok (base w S).1 L (List.getElem?_toArray.trans (List.getElem?_eq_none (r.1.length ▸ List.getElem?_eq_none_iff.mp hn))) fun h' hk ht => ?_
        obtain ⟨o, e⟩ := ht
        exact k none _ .hp (upd (t := w.s.toks) S hi (fun b o e n => hk b o n e) (base w S).2 (.mk o e trivial trivial) trivial (leN hi nI) (S.hdN hi nI)) rfl
    · cases S.list hl with
      | mk vs m e L r =>
        refine atD r hv fun y hy d => wpAny_pyNext_list_item (base w S).1 L (List.getElem?_toArray.trans hy) fun h' hit hs => ?_
        obtain ⟨o, e, c, dd⟩ := hit
        exact k (some y) _ .hp (updS (t := w.s.toks) S hi hs (base w S).2 (.mk o e (.mk c dd) trivial) (S.ltO (so := .iter l i) hi) (leN hi nI) (S.hdN hi nI)) ⟨y, rfl, d.1, Nat.le_of_eq SS.len_set.symm |> fun z => SV.lt_le z d.2⟩
  | riter a b =>
    refine .cond (fun h => .ret ⟨leN hi nR, fun w Q E S k => ?_⟩) fun h => .ret ⟨.refl _, fun w Q E S k => ?_⟩
    · have hab : a < b := of_decide_eq_true h
      refine S.at_ hi fun o e D => ?_
      have e' : IsRangeIter w.s.heap (w.ρ it) a (b - a) 1 := by have e := D ▸ e; unfold riterObj at e; rw [if_pos hab] at e; exact e
      refine wpAny_pyNext_range_item e' (Int.sub_pos_of_lt hab) fun h' hit hs => ?_
      refine k (some _) _ .hp (updS (t := w.s.toks + 1) S hi hs (fun o' e2 => Option.some.inj (e'.symm.trans e2) ▸ .fields rfl fun q t z => nomatch z) (.mk _ hit ?_ trivial) trivial (leN hi nR) (S.hdN hi nR)) ⟨_, rfl, ⟨_, rfl⟩, trivial⟩
      have q : b - a - 1 = if a + 1 < b then b - (a + 1) else 0 := by split <;> omega
      exact q ▸ rfl
    · have hab : ¬ a < b := of_decide_eq_false h
      refine S.at_ hi fun o e D => ?_
      have e' : IsRangeIter w.s.heap (w.ρ it) a 0 1 := by have e := D ▸ e; unfold riterObj at e; rw [if_neg hab] at e; exact e
      exact pyNext_range_end S.hdok e' (Int.le_refl _) fun h' hk => k none _ .hp (keep (t := w.s.toks) S hk) rfl
  | _ => exact .nil
theorem loop_le {t : TG} {b : List IS} (hs : ∀ v fr σ, Ok2 (store X.P I X.hd t v fr σ) fun _ σ' => σ.Le σ') (hb : ∀ fr σ, Ok3 (execs I X.hd b fr σ) fun fl _ σ' => An (σ.Le σ') ((fO X σ' fl).is σ')) {n : Nat} : ∀ {fr : SFr} {σ : SS}, Ok3 (loopN X.P I X.hd t it b n fr σ) fun fl _ σ' => An (σ.Le σ') ((fO X σ' fl).is σ') := by
  induction n with
  | zero => exact .nil
  | succ n ih =>
    exact fun {fr σ} => .b2 (next_ok (X := X) (fr := fr)) fun ov σ1 N => by
      cases ov with
      | none => exact .ret ⟨N.1, trivial⟩
      | some v =>
        refine .b2 (hs v fr σ1) fun fr2 σ2 A => .b3 (hb fr2 σ2) fun fl fr3 σ3 B => ?_
        have le := (N.1.trans A).trans B.1
        cases fl with
        | next => exact ih.mono fun r D => ⟨le.trans D.1, D.2⟩
        | ret v => exact .ret ⟨le, trivial⟩
        | exc e => exact .ret ⟨le, B.2⟩
noncomputable def TurnG (X : Cx) (te : Expr) (be : List Stmt) (Q : Flow → Shared → Prop) (NE : Value → Shared → Prop) (J : Shared → Prop) (a : Addr) (s : Shared) : Prop := wpAny X.M X.A (pyNext (.ref a)) (fun r s₁ => match r with
  | none => wpAny X.M X.A (PySem.execs [] X.env) Q NE s₁
  | some v => wpAny X.M X.A (assign te X.env v) (fun _ s₂ => wpAny X.M X.A (PySem.execs be X.env) (fun f s₃ => match f with
    | .next => J s₃
    | .cont => J s₃
    | .brk => Q .next s₃
    | .ret v => Q (.ret v) s₃) NE s₂) NE s₁) NE s
theorem turn_ok {te : Expr} {be : List Stmt} {v : SV} {fr3 : SFr} {fl3 : Fl} {Q : Flow → Shared → Prop} {NE : Value → Shared → Prop} {J : Shared → Prop} {a : Addr} (N : NX X fr σ it (some v) σ₁) (A : St X fr σ₁ v (assign te X.env) fr₂ σ₂) (B : XT X fr₂ σ₂ (PySem.execs be X.env) fl3 fr3 σ₃) (S : At X fr σ w) (ha : w.ρ it = a)
    (h : ∀ w3, Ex X.outer σ.objs.length w w3 → σ.Le σ₃ → At X fr3 σ₃ w3 → match fl3 with | .next => J w3.s | .ret v => (fO X σ₃ (.ret v)).post Q NE w3 | .exc e => NE (.ref (w3.ρ e)) w3.s) : TurnG X te be Q NE J a w.s :=
  ha ▸ N.2 w _ _ S fun o w1 x1 S1 ho => by
    obtain ⟨y, rfl, dy⟩ := ho
    refine (A y).3 w1 _ _ dy S1 fun w2 x2 S2 _ _ => B.3 w2 _ _ trivial S2 fun w3 x3 S3 => ?_
    have g := h w3 ((x1.trans N.1.1 x2).trans (N.1.trans (A y).1).1 x3) ((N.1.trans (A y).1).trans B.1) S3
    cases fl3 with
    | next => intro f e; cases e; exact g
    | ret u => intro f e; obtain ⟨y, rfl, d⟩ := e; exact g _ ⟨y, rfl, d⟩
    | exc z => exact g
theorem turn_no {te : Expr} {be : List Stmt} {Q : Flow → Shared → Prop} {NE : Value → Shared → Prop} {J : Shared → Prop} {a : Addr} (N : NX X fr σ it none σ₁) (S : At X fr σ w) (ha : w.ρ it = a) (h : ∀ w3, Ex X.outer σ.objs.length w w3 → At X fr σ₁ w3 → Q .next w3.s) : TurnG X te be Q NE J a w.s :=
  ha ▸ N.2 w _ _ S fun o w1 x1 S1 ho => by
    cases ho
    exact wpAny_execs_nil (h w1 x1 S1)
theorem newIt {so : SObj} {o : Obj} {Q : Value → Shared → Prop} (k : ∀ w', Ex X.outer σ.objs.length w w' → At X fr (σ.new so) w' → Q (.ref (w'.ρ σ.objs.length)) w'.s) (S : At X fr σ w) (hf : o.isFreed = false) (d : OD X.G w.ρ so o) (x : OX X.G (clUp w.cl w.s.heap.objs.size (.ob σ.objs.length)) (w.s.heap.push o) σ.objs.length so o) (lt : so.lt σ.objs.length) :
    Q (.ref w.s.heap.objs.size) { w.s with heap := w.s.heap.push o } :=
  congrArg (fun a => Value.ref a) (grow_eq (ρ := w.ρ) (n := σ.objs.length)) ▸ k _ .al (new (t := w.s.toks) S (fun b o e => Heap.get?_push_of_some _ e) none_size (Heap.get?_push_size _ hf) d x lt)
theorem fold_no {e : Expr} {env : Env} (m : plB e = true) (x : Value) : foldedSetIterable e env x = pure x := by
  cases e with
  | Set => cases m
  | _ => rfl
inductive LI (X : Cx) (σ : SS) (w : Wd) (L : Nat → SFr → SS → Option (Fl × SFr × SS)) (q : Fl × SFr × SS) (m : Nat) (s : Shared) : Prop | mk (w₀ : Wd) (fr₀ : SFr) (σ₀ : SS) (hs : w₀.s = s) (x : Ex X.outer σ.objs.length w w₀) (le : σ.Le σ₀) (at_ : At X fr₀ σ₀ w₀) (e : L m fr₀ σ₀ = some q)
theorem loop_turn {t : TG} {b : List IS} {te : Expr} {be : List Stmt} (hfe : X.env = X.fenv) (hs : ∀ v fr σ, Ok2 (store X.P I X.hd t v fr σ) fun fr' σ' => St X fr σ v (assign te X.env) fr' σ') (hb : ∀ fr σ, Ok3 (execs I X.hd b fr σ) fun fl fr' σ' => XT X fr σ (PySem.execs be X.env) fl fr' σ')
    {Q : Flow → Shared → Prop} {E : Value → Shared → Prop} (hit : it < σ.objs.length) (k : ∀ w', Ex X.outer σ.objs.length w w' → At X fr' σ' w' → (fO X σ' fl).post Q E w') (m : Nat) (s : Shared) (L : LI X σ w (fun n fr σ => loopN X.P I X.hd t it b n fr σ) (fl, fr', σ') m s) :
    TurnG X te be Q (notedBy X.M X.A X.env fun e s' => cameBackBy X.M X.A X.env E e s') (fun s => ∃ j, j < m ∧ LI X σ w (fun n fr σ => loopN X.P I X.hd t it b n fr σ) (fl, fr', σ') j s) (w.ρ it) s := by
  cases L with
  | mk w₀ fr₀ σ₀ h0 x₀ le₀ S₀ e₀ =>
    cases h0
    have ha := x₀.1 it hit
    cases m with
    | zero => cases e₀
    | succ m =>
      refine Ok.at (φ := fun q => q = (fl, fr', σ') → _) (x := loopN X.P I X.hd t it b (m + 1) fr₀ σ₀) (.b2 (next_ok (X := X) (fr := fr₀)) fun ov σ1 N => ?_) e₀ rfl
      cases ov with
      | none => exact .ret fun q => turn_no N S₀ ha fun w1 x1 S1 => by cases q; exact k w1 (x₀.trans le₀.1 x1) S1 _ rfl
      | some v =>
        refine .b2 (hs v fr₀ σ1) fun fr2 σ2 A => .b3 (hb fr2 σ2) fun fl3 fr3 σ3 B => ?_
        cases fl3 with
        | next => exact fun q hq hqe => turn_ok N A B S₀ ha fun w3 x3 le3 S3 => ⟨m, Nat.lt_succ_self _, w3, fr3, σ3, rfl, x₀.trans le₀.1 x3, le₀.trans le3, S3, hq.trans (congrArg some hqe)⟩
        | ret u => exact .ret fun q => turn_ok N A B S₀ ha fun w3 x3 le3 S3 => by cases q; exact k w3 (x₀.trans le₀.1 x3) S3
        | exc z =>
          refine .ret fun q => turn_ok N A B S₀ ha fun w3 x3 le3 S3 => ?_
          cases q
          obtain ⟨C, d, hz⟩ := B.2
          exact noted_ok S3 hz hfe rfl fun w4 x4 S4 e4 => congrArg (fun r : Nat → Addr => Value.ref (r z)) e4 ▸ k w4 ((x₀.trans le₀.1 x3).trans (le₀.trans le3).1 x4) S4
theorem loop_ok {t : TG} {b : List IS} {te : Expr} {be : List Stmt} (hfe : X.env = X.fenv) (hs : ∀ v fr σ, Ok2 (store X.P I X.hd t v fr σ) fun fr' σ' => St X fr σ v (assign te X.env) fr' σ') (hb : ∀ fr σ, Ok3 (execs I X.hd b fr σ) fun fl fr' σ' => XT X fr σ (PySem.execs be X.env) fl fr' σ')
    (htg : ∀ a v, letOwnedTupleGo te (.ref a) v = pure ()) {n : Nat} (e : loopN X.P I X.hd t it b n fr σ = some (fl, fr', σ')) {Q : Flow → Shared → Prop} {E : Value → Shared → Prop} (hit : it < σ.objs.length) (S : At X fr σ w) (k : ∀ w', Ex X.outer σ.objs.length w w' → At X fr' σ' w' → (fO X σ' fl).post Q E w') :
    codeAny X.M X.A (.forLoop te (.ref (w.ρ it)) be [] X.env) (fun r s' => match r with | .ok f => Q f s' | .error e => cameBackBy X.M X.A X.env E e s') w.s :=
  codeAny_forLoop (LI X σ w (fun n fr σ => loopN X.P I X.hd t it b n fr σ) (fl, fr', σ')) (loop_turn hfe hs hb hit k) n ⟨w, fr, σ, rfl, .refl .., .refl _, S, e⟩ (htg _)
theorem range_eq {x y : Int} : Builtin.Range.rangeSize x y 1 = if x < y then y - x else 0 := PySem.rangeSize_one x y
theorem overO_ok {l : Nat} {o so : SObj} (hl : σ.objs[l]? = some o) (e : overO l o = some so) : ∀ (w : Wd) (Q : Value → Shared → Prop) (E : Value → Shared → Prop), At X fr σ w → (∀ w', Ex X.outer σ.objs.length w w' → At X fr (σ.new so) w' → Q (.ref (w'.ρ σ.objs.length)) w'.s) → wpAny X.M X.A (pyIter (.ref (w.ρ l))) Q E w.s :=
  Ok.at (φ := fun so => ∀ (w : Wd) (Q : Value → Shared → Prop) (E : Value → Shared → Prop), At X fr σ w → (∀ w', Ex X.outer σ.objs.length w w' → At X fr (σ.new so) w' → Q (.ref (w'.ρ σ.objs.length)) w'.s) → wpAny X.M X.A (pyIter (.ref (w.ρ l))) Q E w.s) (by
    cases o with
    | list xs =>
      refine .ret fun w Q E S k => ?_
      cases S.list hl with
      | mk vs m g L r => exact wpAny_pyIter_list L (newIt k S (o := { cls := .type "list_iterator", data := .fields #[.ref (w.ρ l), .int 0 0] }) rfl (.mk rfl rfl) trivial (SS.at_lt hl))
    | rng a b =>
      refine .ret fun w Q E S k => S.at_ hl fun o g D => ?_
      cases D with
      | mk b1 t u v => exact wpAny_pyIter_range g (small_one (Int.le_trans (by decide) b1.1) (Int.lt_of_le_of_lt b1.2.1 (by decide)) (Int.le_trans (by decide) b1.2.2.1) (Int.lt_of_le_of_lt b1.2.2.2 (by decide))) (newIt k S (o := { cls := .type "range_iterator", data := .fields #[rawInt a, rawInt (Builtin.Range.rangeSize a b 1), rawInt 1] }) rfl (by show _ = _; rw [range_eq]; rfl) trivial trivial)
    | _ => exact .nil) e
theorem ex_for {t : TG} {b : List IS} {te ie : Expr} {be : List Stmt} {p : Pos} {l : Nat} {o so : SObj} {n : Nat} (m : plB ie = true) (hfe : X.env = X.fenv) (htg : ∀ a v, letOwnedTupleGo te (.ref a) v = pure ()) (H : HV X fr σ (eval ie X.env) (.ref l) σ₁) (hl : σ₁.objs[l]? = some o) (ho : overO l o = some so)
    (hs : ∀ v fr σ, Ok2 (store X.P I X.hd t v fr σ) fun fr' σ' => St X fr σ v (assign te X.env) fr' σ') (hb : ∀ fr σ, Ok3 (execs I X.hd b fr σ) fun fl fr' σ' => XT X fr σ (PySem.execs be X.env) fl fr' σ') (e : loopN X.P I X.hd t σ₁.objs.length b n fr (σ₁.new so) = some (fl, fr', σ')) : XT X fr σ (PySem.exec (.For te ie be [] p) X.env) fl fr' σ' := by
  have le := loop_le (X := X) (fun v fr σ => (hs v fr σ).mono fun r A => (A .none).1) (fun fr σ => (hb fr σ).mono fun r A => ⟨A.1, A.2⟩) _ e
  refine ⟨(H.1.trans .new).trans le.1, le.2, fun w Q E _ S k => wpAny_For (H.3 w _ E trivial S fun w1 x1 S1 y d => ?_) (fold_no m)⟩
  cases d.1
  exact overO_ok hl ho w1 _ E S1 fun w2 x2 S2 => loop_ok hfe hs hb htg e (Nat.lt_of_lt_of_eq (Nat.lt_succ_self _) SS.len_new.symm) S2 fun w3 x3 => k w3 ((x1.trans H.1.1 x2).trans (H.1.trans .new).1 x3)
end
section
variable {env' : Env} {h₁ : Heap} {tk L' : Nat} {m' : PySem.Str → Option Value} {fr₁ fr₂ : SFr} {w₁ w₂ : Wd}
noncomputable def Cl.kb (c : Cl) : Bool := match c with | .kept => true | .fr => true | .lo => true | _ => false
noncomputable def gOf (w : Wd) : Heap := hideAll w.s.heap ((List.range w.s.heap.objs.size).filter fun a => !(w.cl a).kb)
theorem gOf.get {b : Addr} {o : Obj} (e : w.s.heap.get? b = some o) (h : (w.cl b).kb = true) : (gOf w).get? b = some o :=
  hideAll_get _ e fun q => by have z := (List.mem_filter.mp q).2; rw [h] at z; cases z
theorem gOf.of {b : Addr} {o : Obj} (e : (gOf w).get? b = some o) : An (w.s.heap.get? b = some o) ((w.cl b).kb = true) := by
  have g := of_hideAll _ e
  refine ⟨g, ?_⟩
  cases q : (w.cl b).kb with
  | true => rfl
  | false => cases e.symm.trans (hideAll_none _ (List.mem_filter.mpr ⟨List.mem_range.mpr (Heap.lt_size g), congrArg (!·) q⟩))
@[reducible] noncomputable def Cx.inn (X : Cx) (env' : Env) (L' : Addr) : Cx := { X with n := X.n - 1, A := X.A.deeper env', env := env', L := L', fenv := env', outer := X.fenv :: X.outer, lm := none }
noncomputable def inCl (w : Wd) (L' b : Addr) : Cl := if b = L' then .fr else cond (w.cl b).kb .kept (w.cl b)
@[reducible] noncomputable def Wd.inn (w : Wd) (h₁ : Heap) (tk : Nat) (m' : PySem.Str → Option Value) : Wd := ⟨gOf w, w.ρ, { w.s with heap := h₁, toks := tk }, inCl w w.s.heap.objs.size, m', m'⟩
theorem Fs.inn (S : At X fr σ w) (hn : 1 ≤ X.n) (hk : env'.scope.kind = .function) (hg : env'.globals = mainGlobals) (hb : env'.builtins = builtinsNs) (hf : env'.frame = some L') (hl : env'.locals = L') : Fs (X.inn env' L') :=
  have F := S.2
  .mk F.1 hk hg hb F.5 F.6 F.7 F.8 F.9 (Around.frames_deeper F.10) hf hk hf F.14 (by have := n_ar (m := 0) hn (Nat.le_refl (X.A.depth + 1)) (Nat.le_trans (Nat.le_of_eq (by rw [Nat.one_mul]; rfl)) F.15); rwa [Nat.one_mul] at this) (n_ar (m := 65) hn (Nat.add_le_add_left (by decide) _) F.16) (fun _ => hl) F.18
theorem inCl_of (S : At X fr σ w) {b : Addr} {c : Cl} (h : w.cl b = c) (n : c ≠ .non) (k : c.kb = false) : inCl w w.s.heap.objs.size b = c := by
  unfold inCl
  rw [if_neg fun q : b = w.s.heap.objs.size => n (h.symm.trans (S.non (q ▸ none_size))), h, k]; rfl
theorem inCl_kb {L' b : Addr} (h : (w.cl b).kb = true) (n : b ≠ L') : inCl w L' b = .kept := by
  unfold inCl
  rw [if_neg n, h]; rfl
theorem enter (S : At X fr σ w) (F : Fs (X.inn env' w.s.heap.objs.size)) (hk : ∀ b o, w.s.heap.get? b = some o → h₁.get? b = some o) (hn : h₁.Ns w.s.heap.objs.size m') (hl : env'.locals = w.s.heap.objs.size)
    (hv : ∀ x v, lk fr₁.loc x = some v → NmAt X.G.V σ.objs.length (w.inn h₁ tk m') x v) (hc : ∀ x i, lk fr₁.cel x = some i → An (env'.cells.lookup (nm x) = some (w.ρ i)) (i < σ.objs.length)) : At (X.inn env' w.s.heap.objs.size) fr₁ σ (w.inn h₁ tk m') := by
  have old : ∀ {b o}, w.s.heap.get? b = some o → b ≠ w.s.heap.objs.size := fun e => Nat.ne_of_lt (Heap.lt_size e)
  have kk : ∀ {b o}, w.k.get? b = some o → (gOf w).get? b = some o := fun e => have q := S.3 _ _ e; gOf.get q.1 (congrArg Cl.kb q.2)
  have eL : inCl w w.s.heap.objs.size w.s.heap.objs.size = .fr := if_pos rfl
  refine .mk (fun i so e => ?_) F (fun b o e => ?_) hn (hl ▸ hn) eL ((congrArg (inCl w _) hl).trans eL) hv hc (fun t ht => ?_) S.11 S.12 S.13 (fun e he => ?_) (fun _ q => nomatch q) (Nat.le_of_eq (hideAll_size ..)) (fun b o e => kk (S.17 b o e)) ?_ (fun a ha => ?_) fun b hb => ?_
  · have O := S.1 i so e
    exact ⟨OI.mv (n := σ.objs.length) (Ch := fun _ => False) (fun b o e _ => hk b o e) (fun _ _ f _ => f.elim) (fun T t => by cases t with | mk o g f c => exact ⟨o, hk T o g, f, inCl_of S c (nomatch ·) rfl⟩) id rfl (fun _ _ => rfl) O.3 O.1, inCl_of S O.2 (nomatch ·) rfl, O.3⟩
  · have q := gOf.of e
    exact ⟨hk b o q.1, inCl_kb q.2 (old q.1)⟩
  · have q := S.10 t ht
    exact ⟨q.1.same (Ch := fun _ => False) (fun b o e _ => hk b o e) (fun _ _ f _ => f.elim) id, inCl_of S q.2 (nomatch ·) rfl⟩
  · cases S.14 e he with | mk is h t => cases t with | mk o g T f => exact ⟨is, h, o, hk _ o g, T, f⟩
  · obtain ⟨oL, esL, epL, g, dL, _⟩ := S.4
    refine ⟨by rw [S.2.12]; decide, ⟨X.L, oL, S.2.11, ?_, gOf.get g (congrArg Cl.kb S.6), fun vs q => nomatch dL.symm.trans q⟩, S.18.of_keeps fun b o e _ => ⟨o, kk e, rfl⟩⟩
    cases q : X.base.get? X.L with
    | none => rfl
    | some o => exact absurd (Nat.lt_of_lt_of_le (Heap.lt_size (S.17 X.L o q)) S.16) (Nat.lt_irrefl _)
  · have ha := (frs_eq S ▸ ha : a ∈ frs X)
    cases ha with
    | head => obtain ⟨oL, esL, epL, g, dL, _⟩ := S.4; exact ⟨oL, _, _, gOf.get g (congrArg Cl.kb S.6), dL⟩
    | tail _ ha => obtain ⟨o, es, n, e, d⟩ := S.19 a ha; exact ⟨o, es, n, kk e, d⟩
  · by_cases q : b = w.s.heap.objs.size
    · exact q ▸ ns_ex hn
    · have nn : w.cl b ≠ .non := fun z => hb (by show inCl w w.s.heap.objs.size b = .non; unfold inCl; rw [if_neg q, z]; rfl)
      obtain ⟨o, g⟩ := S.20 b nn
      exact ⟨o, hk b o g⟩
noncomputable def outCl (w w₁ : Wd) (b : Addr) : Cl := cond (w.cl b).kb (w.cl b) (w₁.cl b)
theorem leave (S : At X fr σ w) (S₁ : At (X.inn env' L') fr₁ σ₁ w₁) (hL : w.s.heap.objs.size = L') (x : Ex (X.fenv :: X.outer) σ.objs.length (w.inn h₁ tk m') w₁) (le : σ.Le σ₁) : ∃ w₂, Ex X.outer σ.objs.length w w₂ ∧ At X fr σ₁ w₂ ∧ w₂.s = w₁.s ∧ w₂.ρ = w₁.ρ := by
  have kk : ∀ {b o}, w.s.heap.get? b = some o → (w.cl b).kb = true → ∃ sl, w₁.k.get? b = some { o with slots := sl } ∧ w₁.s.heap.get? b = some { o with slots := sl } ∧ w₁.cl b = .kept := fun e h => by
    obtain ⟨sl, y⟩ := x.2 _ _ (gOf.get e h)
    have q := S₁.3 _ _ y
    exact ⟨sl, y, q.1, q.2⟩
  have cO : ∀ {b c}, w₁.cl b = c → c ≠ .kept → c ≠ .non → outCl w w₁ b = c := fun {b c} h n n2 => by
    unfold outCl
    cases q : (w.cl b).kb with
    | false => exact h
    | true =>
      obtain ⟨o, g⟩ := S.20 b fun z => by rw [z] at q; cases q
      obtain ⟨_, _, _, z⟩ := kk g q
      exact absurd (h.symm.trans z) n
  have cK : ∀ {b c}, w.cl b = c → c.kb = true → outCl w w₁ b = c := fun {b c} h k => by unfold outCl; rw [h, k]; rfl
  have lcK : X.lc.kb = true := by unfold Cx.lc; cases X.lm <;> rfl
  have nsK : ∀ {a m}, w.s.heap.Ns a m → (w.cl a).kb = true → w₁.s.heap.Ns a m := fun y h => by
    obtain ⟨o, es, ep, eo, r⟩ := y
    obtain ⟨sl, _, g, _⟩ := kk eo h
    exact ⟨_, es, ep, g, r⟩
  have kO : ∀ b o, w.k.get? b = some o → ∃ sl, w₁.k.get? b = some { o with slots := sl } ∧ w₁.s.heap.get? b = some { o with slots := sl } ∧ w₁.cl b = .kept := fun b o e => have q := S.3 b o e; kk q.1 (congrArg Cl.kb q.2)
  have hget : ∀ b o, w.k.get? b = some o → (reslot w.k w₁.k).get? b = w₁.k.get? b := fun b o e => by
    obtain ⟨sl, y, _⟩ := kO b o e
    rw [get_reslot, e, y]; rfl
  have hnone : ∀ b, w.k.get? b = none → (reslot w.k w₁.k).get? b = none := fun b e => by rw [get_reslot, e]; rfl
  have same : ∀ b o, w.k.get? b = some o → b ∉ X.outer.filterMap (·.frame) → (reslot w.k w₁.k).get? b = some o := fun b o e n => (hget b o e).trans (x.4 b o (have q := S.3 b o e; gOf.get q.1 (congrArg Cl.kb q.2)) fun hm => by
    have hm := (frs_eq S ▸ hm : b ∈ frs X)
    cases hm with
    | head => cases S.6.symm.trans (S.3 _ o e).2
    | tail _ hm => exact n hm)
  refine ⟨⟨reslot w.k w₁.k, w₁.ρ, w₁.s, outCl w w₁, w.m, w.me⟩, ⟨x.1, fun b o e => ?_, hnone, same, reslot_size ..⟩, ?_, rfl, rfl⟩
  · obtain ⟨sl, y, _⟩ := kO b o e
    exact ⟨sl, (hget b o e).trans y⟩
  refine .mk (fun i so e => ?_) S.2 (fun b o e => ?_) (nsK S.4 (congrArg Cl.kb S.6)) (nsK S.5 ((congrArg Cl.kb S.7).trans lcK)) (cK S.6 rfl) (cK S.7 lcK) (fun z v q => by cases S.8 z v q with | mk l y e d => exact ⟨SV.lt_le le.1 l, y, e, d.ext x.1 l⟩)
    (fun z i q => have y := S.9 z i q; ⟨y.1.trans (congrArg some (x.1 i y.2).symm), Nat.lt_of_lt_of_le y.2 le.1⟩) (fun t ht => have q := S₁.10 t ht; ⟨q.1, cO q.2 (nomatch ·) (nomatch ·)⟩) S₁.11 S₁.12 S₁.13 (fun e he => by cases S₁.14 e he with | mk is h t => exact ⟨is, h, t⟩) S.15 ((reslot_size ..).symm ▸ S.16)
    (fun b o e => same b o (S.17 b o e) fun q => nomatch (funFrames_out S.18 b q).symm.trans e) (S.18.of_keeps fun b o e _ => let ⟨_, y, _⟩ := kO b o e; ⟨_, (hget b o e).trans y, rfl⟩) (fun a ha => ?_) fun b hb => ?_
  · have O := S₁.1 i so e
    exact ⟨OI.mv (n := σ₁.objs.length) (Ch := fun _ => False) (fun b o e _ => e) (fun _ _ f _ => f.elim) (fun T t => by cases t with | mk o g f c => exact ⟨o, g, f, cO c (nomatch ·) (nomatch ·)⟩) id rfl (fun _ _ => rfl) O.3 O.1, cO O.2 (nomatch ·) (nomatch ·), O.3⟩
  · cases q : w.k.get? b with
    | none => cases (hnone b q).symm.trans e
    | some o₀ =>
      have y := S₁.3 b o ((hget b o₀ q).symm.trans e)
      exact ⟨y.1, cK (S.3 b o₀ q).2 rfl⟩
  · obtain ⟨o, es, n, e, d⟩ := S.19 a ha
    obtain ⟨sl, y, _⟩ := kO a o e
    exact ⟨_, es, n, (hget a o e).trans y, d⟩
  · cases q : (w.cl b).kb with
    | true =>
      obtain ⟨o, g⟩ := S.20 b fun z => by rw [z] at q; cases q
      obtain ⟨_, _, z, _⟩ := kk g q
      exact ⟨_, z⟩
    | false => exact S₁.20 b fun z => hb (show cond (w.cl b).kb (w.cl b) (w₁.cl b) = .non by rw [q]; exact z)
end
section
variable {env' : Env} {h₁ : Heap} {tk L' : Nat} {m' : PySem.Str → Option Value} {fr₁ fr₂ : SFr} {w₁ w₂ : Wd} {fl : Fl}
theorem body_ok (S : At X fr σ w) {body : List Stmt} {R : Result → Shared → Prop} (hL : w.s.heap.objs.size = L') (S₁ : At (X.inn env' L') fr₁ σ₁ w₁) (x₁ : Ex (X.fenv :: X.outer) σ.objs.length (w.inn h₁ tk m') w₁) (le₁ : σ.Le σ₁) (H : XT (X.inn env' L') fr₁ σ₁ (PySem.execs body env') fl fr₂ σ₂)
    (k : ∀ w', Ex X.outer σ.objs.length w w' → At X fr σ₂ w' → (rO X σ₂ (rsOf fl)).post (resO R) (resE R) w') :
    wpAny X.M (X.A.deeper env') (PySem.execs body env') (fun fl s' => R (.ok (.ret (match fl with | .ret v => v | _ => .none))) s')
      (fun e s' => wpAny X.M (X.A.deeper env') (PySem.leaving env' e) (fun _ s'' => R (.error e) s'') (fun e' s'' => R (.error e') s'') s') w₁.s := by
  have le := le₁.trans H.1
  refine H.3 w₁ _ _ trivial S₁ fun w2 x2 S2 => ?_
  have x := x₁.trans le₁.1 x2
  cases fl with
  | next =>
    intro f e
    cases e
    obtain ⟨w3, x3, S3, e3, _⟩ := leave S S2 hL x le
    exact e3 ▸ k w3 x3 S3 .none ⟨rfl, trivial⟩
  | ret v =>
    intro f e
    obtain ⟨y, rfl, d⟩ := e
    obtain ⟨w3, x3, S3, e3, e4⟩ := leave S S2 hL x le
    exact e3 ▸ k w3 x3 S3 y (e4.symm ▸ d)
  | exc e =>
    obtain ⟨C, d, he⟩ := H.2
    show wpAny X.M (X.A.deeper env') (PySem.leaving env' (.ref (w2.ρ e))) (fun _ s'' => R (.error (.ref (w2.ρ e))) s'') _ w2.s
    unfold PySem.leaving
    refine wpAny_bind (noteFrame_ok (X := X.inn env' L') S2 he rfl rfl fun w3 x3 S3 e3 _ => ?_)
    rw [← e3]
    refine setFlight_ok (X := X.inn env' L') S3 he fun w4 x4 S4 e4 _ => ?_
    obtain ⟨w5, x5, S5, e5, e6⟩ := leave S S4 hL ((x.trans le.1 x3).trans le.1 x4) le
    have := k w5 x5 S5
    rw [← e4, ← e6, ← e5]
    exact this
theorem addCel (S : At X fr σ w) {x i : Nat} (h1 : X.env.cells.lookup (nm x) = some (w.ρ i)) (h2 : i < σ.objs.length) : At X ⟨fr.loc, (x, i) :: fr.cel⟩ σ w :=
  .mk S.1 S.2 S.3 S.4 S.5 S.6 S.7 S.8 (fun z j hz => by
    have hz : cond (Nat.beq x z) (some i) (lk fr.cel z) = some j := hz
    cases q : Nat.beq x z with
    | true => rw [q] at hz; cases hz; rw [← Nat.eq_of_beq_eq_true q]; exact ⟨h1, h2⟩
    | false => rw [q] at hz; exact S.9 z j hz) S.10 S.11 S.12 S.13 S.14 S.15 S.16 S.17 S.18 S.19 S.20
theorem lk_del {α : Type} {l : List (Nat × α)} {x y : Nat} (h : y ≠ x) : lk (del l x) y = lk l y := by
  induction l with
  | nil => rfl
  | cons e r ih =>
    show lk (cond (Nat.beq e.1 x) r (e :: del r x)) y = cond (Nat.beq e.1 y) (some e.2) (lk r y)
    cases q : Nat.beq e.1 x with
    | true =>
      have n : Nat.beq e.1 y = false := by
        cases z : Nat.beq e.1 y with
        | false => rfl
        | true => exact absurd ((Nat.eq_of_beq_eq_true z).symm.trans (Nat.eq_of_beq_eq_true q)) h
      rw [n]; rfl
    | false => exact congrArg (cond (Nat.beq e.1 y) (some e.2)) ih
inductive Cel (X : Cx) (σ : SS) (loc : List (Nat × SV)) (w : Wd) (c : Nat) (a : Addr) : Prop | mk (l : X.env.cells.lookup (nm c) = some a) (n : w.cl a = .non) (x : Option Value) (h : w.s.heap.IsCell a x) (v : ∀ v, lk loc c = some v → An (v.lt σ.objs.length) (∃ y, x = some y ∧ Den X.G.V w.ρ v y))
theorem cells_ok (cad : Nat → Addr) {locF : List (Nat × SV)} {cells : List Nat} : ∀ {σ : SS} {loc : List (Nat × SV)} {cs : List (Nat × Nat)} {w : Wd}, cells.Nodup → At X ⟨locF, cs⟩ σ w → (∀ c ∈ cells, Cel X σ loc w c (cad c)) → (∀ c ∈ cells, ∀ c' ∈ cells, cad c = cad c' → c = c') →
    ∃ w', Ex X.outer σ.objs.length w w' ∧ At X ⟨locF, (makeCells σ loc cells cs).2.1⟩ (makeCells σ loc cells cs).2.2 w' ∧ w'.s = w.s := by
  induction cells with
  | nil => exact fun {σ loc cs w} _ S _ _ => ⟨w, .refl .., S, rfl⟩
  | cons c r ih =>
    intro σ loc cs w nd S h hi
    have nd := List.nodup_cons.mp nd
    cases h c (.head _) with
    | mk l n x hx hv =>
      obtain ⟨o, e, d⟩ := hx
      have S1 := newG (t := w.s.toks) (so := .cell (lk loc c)) S (fun _ _ e _ => e) S.4 n e (.mk x d (by cases q : lk loc c with | none => trivial | some v => exact (hv v q).2)) trivial (by cases q : lk loc c with | none => trivial | some v => exact (hv v q).1)
      have S2 := addCel (x := c) (i := σ.objs.length) S1 (l.trans (congrArg some grow_eq.symm)) (Nat.lt_of_lt_of_eq (Nat.lt_succ_self _) SS.len_new.symm)
      obtain ⟨w', x', S3, e'⟩ := ih (loc := del loc c) nd.2 S2 (fun c' hc' => by
        have hne : c' ≠ c := fun q => nd.1 (q ▸ hc')
        cases h c' (.tail _ hc') with
        | mk l' n' x' hx' hv' => exact ⟨l', (clUp_ne fun q => hne (hi c' (.tail _ hc') c (.head _) q)).trans n', x', hx', fun v q => by
            have y := hv' v ((lk_del hne).symm.trans q)
            exact ⟨SV.lt_le SS.Le.new.1 y.1, let ⟨z, e1, e2⟩ := y.2; ⟨z, e1, e2.ext grow_lt y.1⟩⟩⟩) fun a ha b hb => hi a (.tail _ ha) b (.tail _ hb)
      exact ⟨w', Ex.trans (.al) (Nat.le_refl _) ⟨fun i hi => x'.1 i (Nat.lt_of_lt_of_le hi SS.Le.new.1), x'.2, x'.3, x'.4, x'.5⟩, S3, e'⟩
end
theorem forIn_path {α β : Type} {f : α → β → Sem (ForInStep β)} {g : β → α → β} : ∀ (l : List α) (b : β), (∀ (pre : List α) (x : α) (post : List α), l = pre ++ x :: post → f x (pre.foldl g b) = pure (.yield (g (pre.foldl g b) x))) → forIn l b f = (pure (l.foldl g b) : Sem β)
  | [], b, _ => by rw [List.forIn_nil]; rfl
  | x :: l, b, h => by
    rw [List.forIn_cons, show f x b = pure (.yield (g b x)) from h [] x l rfl]
    show forIn l (g b x) f = _
    exact forIn_path l (g b x) fun pre y post e => h (x :: pre) y post (by rw [e]; rfl)
noncomputable def DfOK (h : Heap) (v : Value) (items : List Value) : Prop := (v = .none ∧ items = []) ∨ ∃ T o n, v = .ref T ∧ h.get? T = some o ∧ o.data = .seq items.toArray n
noncomputable def putD (slots : List (PySem.Str × Value)) (p : PySem.Str × Value) : List (PySem.Str × Value) := if (slots.lookup p.1).isNone then slots ++ [(p.1, p.2)] else slots
theorem binds_ok {s : Shared} {fd : FuncData} {vs : List Value} {kw : List (PySem.Str × Value)} {ns : List Arg} {dd : List Expr} {items : List Value} (hp : fd.params = ⟨[], ns, none, [], [], none, dd⟩) (hdf : DfOK s.heap fd.defaults items)
    (h1 : vs.length ≤ ns.length) (h2 : items.length ≤ ns.length)
    (hk : ∀ pre k v post, kw = pre ++ (k, v) :: post → (ns.map (·.arg)).contains k = true ∧ (((ns.map (·.arg)).zip vs ++ pre).lookup k) = none)
    (hm : ((ns.map (·.arg)).take (ns.length - items.length)).filter (fun n => (((ns.map (·.arg)).zip vs ++ kw).lookup n).isNone) = []) :
    BindsTo s fd ⟨vs, kw⟩ ((ns.map (·.arg)).filterMap fun n => ((((ns.map (·.arg)).drop (ns.length - items.length)).zip items).foldl putD ((ns.map (·.arg)).zip vs ++ kw)).lookup n |>.map (n, ·)) := by
  intro M A E Q hq
  unfold PySem.bindArgs
  rw [hp]
  simp only [List.map_nil, List.nil_append, List.append_nil, List.forIn_nil]
  have fold : ∀ (l : List (PySem.Str × Value)) (a : List (PySem.Str × Value)), l.foldl (fun (b : List (PySem.Str × Value) × List (PySem.Str × Value)) x => (b.1 ++ [(x.1, x.2)], b.2)) (a, []) = (a ++ l, []) := by
    intro l
    induction l with
    | nil => intro a; simp
    | cons p r ih => intro a; rw [List.foldl_cons, ih]; simp
  rw [forIn_path (g := fun b x => (b.1 ++ [(x.1, x.2)], b.2)) kw _ (fun pre x post e => by
    obtain ⟨k, v⟩ := x
    obtain ⟨a1, a2⟩ := hk pre k v post e
    rw [fold]
    dsimp only
    rw [if_pos (by rw [a1]; rfl), a2, if_neg (by decide)])]
  rw [fold]
  refine wpAny_bind (wpAny_pure ?_)
  dsimp only
  have seq : ∃ o : Option (Array Value), (o.getD #[]).toList = items ∧ ∀ (Q' : Option (Array Value) → Shared → Prop), Q' o s → wpAny M A (seqItems? fd.defaults) Q' E s := by
    rcases hdf with ⟨e, rfl⟩ | ⟨T, o, n, e, e1, e2⟩
    · refine ⟨none, rfl, fun Q' h => ?_⟩
      rw [e]; exact wpAny_pure h
    · refine ⟨some items.toArray, by simp, fun Q' h => ?_⟩
      rw [e]; exact wpAny_seqItems e1 e2 h
  obtain ⟨o, ho, seq⟩ := seq
  refine wpAny_bind (seq _ ?_)
  rw [ho]
  have hlen : (ns.map (·.arg)).length = ns.length := List.length_map ..
  rw [if_neg (by rw [decide_eq_false (by rw [hlen]; omega)]; decide)]
  simp only [hlen, Nat.sub_eq_zero_of_le h2, List.drop_zero]
  rw [if_neg (by rw [hm]; decide)]
  rw [forIn_path (g := putD) _ _ (fun pre x post e => by
    obtain ⟨k, v⟩ := x
    unfold putD
    dsimp only
    split <;> rfl)]
  refine wpAny_bind (wpAny_pure ?_)
  refine wpAny_bind (wpAny_pure ?_)
  dsimp only
  rw [if_neg (by decide)]
  exact wpAny_pure hq
theorem nm_beq {a b : Nat} : (nm a == nm b) = Nat.beq a b := beq_nm a b
theorem lookup_of {l : List (Nat × SV)} {L : List (PySem.Str × Value)} (h : All2 (EN V ρ) l L) (p : Nat) : LkAt V ρ (lk l p) (L.lookup (nm p)) := by
  induction h with
  | nil => rfl
  | @cons e kv l L h1 _ ih =>
    have q : (nm p == kv.1) = Nat.beq e.1 p := by
      rw [h1.1, nm_beq]
      cases z : Nat.beq e.1 p with
      | true => rw [Nat.eq_of_beq_eq_true z, Nat.beq_refl]
      | false => cases y : Nat.beq p e.1 with
        | false => rfl
        | true => exact absurd (Nat.eq_of_beq_eq_true y).symm (beq_false z)
    show LkAt V ρ (cond (Nat.beq e.1 p) (some e.2) (lk l p)) (match nm p == kv.1 with | true => some kv.2 | false => L.lookup (nm p))
    rw [q]
    cases Nat.beq e.1 p with
    | true => exact ⟨kv.2, rfl, h1.2⟩
    | false => exact ih
theorem zip_rel {ps : List Nat} : ∀ {args : List SV} {vs : List Value}, All2 (Den V ρ) args vs → All2 (EN V ρ) (ps.zip args) ((ps.map nm).zip vs) := by
  induction ps with
  | nil => exact fun _ => .nil
  | cons p ps ih =>
    intro args vs h
    cases h with
    | nil => exact .nil
    | cons a r => exact .cons ⟨rfl, a⟩ (ih r)
theorem putD_lookup {D : List (PySem.Str × Value)} : ∀ {S : List (PySem.Str × Value)} {n : PySem.Str}, (D.foldl putD S).lookup n = (S.lookup n).or (D.lookup n) := by
  induction D with
  | nil => exact fun {S n} => Option.or_none.symm
  | cons e D ih =>
    intro S n
    rw [List.foldl_cons, ih, List.lookup_cons]
    unfold putD
    cases h : S.lookup e.1 with
    | none =>
      rw [Option.isNone_none, if_pos rfl, List.lookup_append, Option.or_assoc]
      refine congrArg (Option.or _) ?_
      rw [List.lookup_cons]
      cases n == e.1 <;> rfl
    | some x =>
      rw [if_neg (by exact Bool.false_ne_true)]
      cases q : n == e.1 with
      | true => rw [beq_iff_eq.mp q, h]; rfl
      | false => rfl
theorem lk_append {α : Type} {a b : List (Nat × α)} {p : Nat} : lk (a ++ b) p = (lk a p).or (lk b p) := by
  induction a with
  | nil => rfl
  | cons e a ih =>
    show cond (Nat.beq e.1 p) (some e.2) (lk (a ++ b) p) = (cond (Nat.beq e.1 p) (some e.2) (lk a p)).or (lk b p)
    cases Nat.beq e.1 p with
    | true => rfl
    | false => exact ih
theorem lk_notin {α : Type} {l : List (Nat × α)} {p : Nat} (h : p ∉ l.map (·.1)) : lk l p = none := by
  cases e : lk l p with
  | none => rfl
  | some v => exact absurd (List.mem_map_of_mem (lk_mem e)) h
inductive BV (ps : List Nat) (args : List SV) (kws df loc : List (Nat × SV)) : Prop | mk (keys : loc.map (·.1) = ps) (le : args.length ≤ ps.length) (val : ∀ e ∈ loc, ((lk (ps.zip args) e.1).or ((lk kws e.1).or (lk df e.1))) = some e.2)
theorem bindVM {kws df : List (Nat × SV)} {ps : List Nat} : ∀ {args : List SV}, ps.Nodup → Ok (Mine.bindArgs kws df ps args) fun loc => BV ps args kws df loc := by
  induction ps with
  | nil => exact fun {args} _ => .wh fun h => .ret (by cases emp_of h; exact ⟨rfl, Nat.le_refl _, nil_all⟩)
  | cons p ps ih =>
    intro args nd
    have nd := List.nodup_cons.mp nd
    have tl : ∀ {args : List SV} {l : List (Nat × SV)} {v : SV}, BV ps args kws df l → (lk kws p).or (lk df p) = some v → BV (p :: ps) [] kws df ((p, v) :: l) ∨ args ≠ [] := fun {args l v} B q => by
      cases args with
      | cons => exact .inr (nomatch ·)
      | nil => exact .inl ⟨congrArg (p :: ·) B.1, Nat.zero_le _, fun e he => (List.mem_cons.mp he).elim (fun z => z ▸ q) fun he => (congrArg (fun z => Option.or z _) (show lk ((p :: ps).zip ([] : List SV)) e.1 = lk (ps.zip ([] : List SV)) e.1 by rw [List.zip_nil_right, List.zip_nil_right])).trans (B.3 e he)⟩
    cases args with
    | nil =>
      refine .opt (fun hk => .bind fun v hv => .then (x := Mine.bindArgs kws df ps []) (ih nd.2) fun l B => .ret ((tl B (by rw [hk, hv]; rfl)).resolve_right fun n => n rfl)) fun v hv => .then (x := Mine.bindArgs kws df ps []) (ih nd.2) fun l B => .ret ((tl B (by rw [hv]; rfl)).resolve_right fun n => n rfl)
    | cons v vs =>
      refine .then (x := Mine.bindArgs kws df ps vs) (ih nd.2) fun l B => .ret ⟨congrArg (p :: ·) B.1, Nat.succ_le_succ B.2, fun e he => ?_⟩
      show ((cond (Nat.beq p e.1) (some v) (lk (ps.zip vs) e.1)).or _) = _
      cases List.mem_cons.mp he with
      | inl z => rw [z, Nat.beq_refl]; rfl
      | inr he =>
        have n : Nat.beq p e.1 = false := by
          cases q : Nat.beq p e.1 with
          | false => rfl
          | true => exact absurd (B.1 ▸ Nat.eq_of_beq_eq_true q ▸ List.mem_map_of_mem (f := (·.1)) he) nd.1
        rw [n]; exact B.3 e he
theorem memN_mem {x : Nat} {l : List Nat} (h : memN x l = true) : x ∈ l := by
  obtain ⟨y, hy, e⟩ := List.any_eq_true.mp h
  exact Nat.eq_of_beq_eq_true e ▸ hy
inductive Parted {α β : Type} (R : α → β → Prop) (l : List α) (pre : List β) (b : β) : Prop | mk (lp : List α) (a : α) (lq : List α) (e : l = lp ++ a :: lq) (r : All2 R lp pre) (h : R a b)
theorem All2.left {α β : Type} {R : α → β → Prop} {pre : List β} {b : β} {post : List β} : ∀ {l : List α}, All2 R l (pre ++ b :: post) → Parted R l pre b := by
  induction pre with
  | nil => exact fun h => by cases h with | cons h t => exact ⟨[], _, _, rfl, .nil, h⟩
  | cons p pre ih =>
    exact fun h => by
      cases h with
      | cons h t => cases ih t with | mk lp a lq e r h' => exact ⟨_ :: lp, a, lq, congrArg (_ :: ·) e, .cons h r, h'⟩
theorem nodupK_mid {a : Nat × SV} {lp lq : List (Nat × SV)} (h : nodupK (lp ++ a :: lq) = true) : lk lp a.1 = none := by
  induction lp with
  | nil => rfl
  | cons p lp ih =>
    have b := an_bool (show ((lk (lp ++ a :: lq) p.1).isNone && nodupK (lp ++ a :: lq)) = true from h)
    show cond (Nat.beq p.1 a.1) (some p.2) (lk lp a.1) = none
    cases q : Nat.beq p.1 a.1 with
    | true => exact absurd (non_of b.1) (Nat.eq_of_beq_eq_true q ▸ lk_has (List.mem_append_right _ (.head _)))
    | false => exact ih b.2
theorem zip_keys {α : Type} {ps : List Nat} : ∀ {args : List α}, (ps.zip args).map (·.1) = ps.take args.length := by
  induction ps with
  | nil => exact fun {args} => List.take_nil.symm
  | cons p ps ih =>
    intro args
    cases args with
    | nil => rfl
    | cons a r => exact congrArg (p :: ·) ih
theorem nodup_take_drop {ps : List Nat} (h : ps.Nodup) (n : Nat) {x : Nat} (hx : x ∈ ps.drop n) (hy : x ∈ ps.take n) : False := by
  rw [← List.take_append_drop n ps, List.Nodup, List.pairwise_append] at h
  exact h.2.2 x hy x hx rfl
theorem df_rel {df : List (Nat × SV)} {items : List Value} (h : All2 (fun (e : Nat × SV) y => An (Den V ρ e.2 y) e.2.still) df items) : All2 (EN V ρ) df ((df.map fun e => nm e.1).zip items) := by
  induction h with
  | nil => exact .nil
  | cons a _ ih => exact .cons ⟨rfl, a.1⟩ ih
theorem bind_rel {s : Shared} {fd : FuncData} {ns : List Arg} {dd : List Expr} {ps : List Nat} {args : List SV} {kws df loc : List (Nat × SV)} {vs : List Value} {kw : List (PySem.Str × Value)} {items : List Value}
    (hp : fd.params = ⟨[], ns, none, [], [], none, dd⟩) (hns : ns.map (·.arg) = ps.map nm) (hdf : DfOK s.heap fd.defaults items) (hnd : ps.Nodup) (B : BV ps args kws df loc) (hkw : kwsOK ps args kws = true)
    (ha : All2 (Den V ρ) args vs) (hk : All2 (EN V ρ) kws kw) (hd1 : df.map (·.1) = ps.drop (ps.length - df.length)) (hd2 : All2 (fun (e : Nat × SV) y => An (Den V ρ e.2 y) e.2.still) df items) (hd3 : df.length ≤ ps.length) : ∃ binds, BindsTo s fd ⟨vs, kw⟩ binds ∧ All2 (EN V ρ) loc binds := by
  have k := an_bool hkw
  have hlen : ns.length = ps.length := ((List.length_map ..).symm.trans (congrArg List.length hns)).trans (List.length_map ..)
  have hC := (zip_rel (ps := ps) ha).append hk
  have hil : items.length = df.length := hd2.length.symm
  have hD : All2 (EN V ρ) df (((ps.map nm).drop (ps.length - df.length)).zip items) := by
    rw [← List.map_drop, ← hd1, List.map_map]
    exact df_rel hd2
  refine ⟨_, binds_ok hp hdf (hlen ▸ ha.length ▸ B.2) (hlen ▸ hil ▸ hd3) (fun pre kk v post ekw => ?_) ?_, ?_⟩
  · subst ekw
    cases hk.left with
    | mk lp a lq e r g =>
      subst e
      have g1 : kk = nm a.1 := g.1
      subst g1
      have hm := memN_mem (List.all_eq_true.mp k.2 a (List.mem_append_right _ (.head _)))
      rw [hns]
      refine ⟨List.contains_iff_mem.mpr (List.mem_map_of_mem (List.mem_of_mem_drop hm)), LkAt.none (lookup_of ((zip_rel ha).append r) a.1) ?_⟩
      rw [lk_append, lk_notin fun q => nodup_take_drop hnd _ hm (zip_keys ▸ q), nodupK_mid k.1]; rfl
  · rw [List.filter_eq_nil_iff]
    intro n hn
    rw [hns, hlen, hil, ← List.map_take] at hn
    obtain ⟨p, hp', rfl⟩ := List.mem_map.mp hn
    obtain ⟨x, hx, rfl⟩ := List.mem_map.mp (B.1.symm ▸ List.mem_of_mem_take hp' : p ∈ loc.map (·.1))
    have h3 := B.3 x hx
    rw [lk_notin fun q => nodup_take_drop hnd _ (hd1 ▸ q) hp', Option.or_none, ← lk_append] at h3
    refine (lookup_of hC x.1).some h3 fun y hy _ => ?_
    rw [hns, hy]
    exact Bool.false_ne_true
  · rw [hns, hlen, hil, ← B.1]
    have main : ∀ l : List (Nat × SV), (∀ e ∈ l, e ∈ loc) → All2 (EN V ρ) l (((l.map (·.1)).map nm).filterMap fun n => (((((loc.map (·.1)).map nm).drop ((loc.map (·.1)).length - df.length)).zip items).foldl putD (((loc.map (·.1)).map nm).zip vs ++ kw)).lookup n |>.map (n, ·)) := by
      rw [B.1]
      intro l
      induction l with
      | nil => exact fun _ => .nil
      | cons x l ih =>
        intro hl
        have h3 := B.3 x (hl x (.head _))
        rw [← Option.or_assoc, ← lk_append, ← lk_append] at h3
        have e := (hC.append hD)
        refine (lookup_of e x.1).some h3 fun y hy d => ?_
        rw [List.map_cons, List.map_cons, List.filterMap_cons, putD_lookup, ← List.lookup_append, hy]
        exact .cons ⟨rfl, d⟩ (ih fun e he => hl e (.tail _ he))
    exact main loc fun _ h => h
theorem mem_zip_snd {α : Type} {ps : List Nat} {l : List α} {x : Nat} {v : α} (h : lk (ps.zip l) x = some v) : v ∈ l := (List.of_mem_zip (lk_mem h)).2
theorem bv_lt {n : Nat} {ps : List Nat} {args : List SV} {kws df loc : List (Nat × SV)} (B : BV ps args kws df loc) (ha : ∀ v ∈ args, v.lt n) (hk : ∀ e ∈ kws, e.2.lt n) (hd : ∀ e ∈ df, e.2.lt n) : ∀ e ∈ loc, e.2.lt n := fun e he => by
  have h := B.3 e he
  cases q1 : lk (ps.zip args) e.1 with
  | some v => rw [q1] at h; cases h; exact ha _ (mem_zip_snd q1)
  | none =>
    rw [q1, Option.none_or] at h
    cases q2 : lk kws e.1 with
    | some v => rw [q2] at h; cases h; exact hk _ (lk_mem q2)
    | none => rw [q2, Option.none_or] at h; exact hd _ (lk_mem h)
section
variable {fr₁ fr₂ : SFr} {fl : Fl} {k : Nat} {M : Model}
theorem kp_plain {y : Value} (hy : ∀ a, y ≠ .ref a) {h : Heap} : KpOK M y h := by
  refine ⟨.machine, .inr (.inl rfl), ?_⟩
  cases y with
  | ref a => exact absurd rfl (hy a)
  | _ => exact Looks.now
theorem kp_fn {h : Heap} {a : Addr} {o : Obj} {fd : FuncData} (e : h.get? a = some o) (hd : o.data = .func fd) : KpOK M (.ref a) h := by
  obtain ⟨c, d, dt, sl⟩ := o
  cases hd
  exact ⟨.frame, .inl rfl, (Looks.ld (part := none) e).andThen .now⟩
theorem kp_bm {h : Heap} {q a : Addr} {self : Value} {o : Obj} {fd : FuncData} (e : h.get? q = some (methodObj (.ref a) self)) (ea : h.get? a = some o) (hd : o.data = .func fd) : KpOK M (.ref q) h := by
  obtain ⟨c, d, dt, sl⟩ := o
  cases hd
  exact ⟨.boundFrame, .inr (.inr rfl), (Looks.ld (part := none) e).andThen ((Looks.ld (part := none) ea).andThen .now)⟩
theorem kp_K {K : Frag} {h : Heap} {y : Value} (X : K.In h) (hk : keepIn K y = true) : KpOK M y h := keeps_K hk h X
theorem bindL_eq (kindOf : PySem.Str → Option NameKind) {binds : List (PySem.Str × Value)} {z : PySem.Str} (hz : kindOf z = some .local) : ∀ {m : PySem.Str → Option Value}, bindL kindOf binds m z = (binds.reverse.lookup z).or (m z) := by
  induction binds with
  | nil => exact fun {m} => rfl
  | cons e r ih =>
    intro m
    rw [List.reverse_cons, List.lookup_append]
    refine (ih (m := if kindOf e.1 = some .local then fun y => if y = e.1 then some e.2 else m y else m)).trans ((Option.or_assoc ..).symm ▸ congrArg (Option.or _) ?_)
    rw [List.lookup_cons]
    cases q : z == e.1 with
    | true => rw [beq_iff_eq.mp q] at hz ⊢; rw [if_pos hz]; exact if_pos rfl
    | false => by_cases hn : kindOf e.1 = some .local
               · rw [if_pos hn]; exact if_neg (beq_eq_false_iff_ne.mp q)
               · rw [if_neg hn]; rfl
theorem bindC_eq (kindOf : PySem.Str → Option NameKind) {binds : List (PySem.Str × Value)} {z : PySem.Str} (hz : kindOf z ≠ some .local) : ∀ {m : PySem.Str → Option Value}, bindC kindOf binds m z = (binds.reverse.lookup z).or (m z) := by
  induction binds with
  | nil => exact fun {m} => rfl
  | cons e r ih =>
    intro m
    rw [List.reverse_cons, List.lookup_append]
    refine (ih (m := if kindOf e.1 = some .local then m else fun y => if y = e.1 then some e.2 else m y)).trans ((Option.or_assoc ..).symm ▸ congrArg (Option.or _) ?_)
    rw [List.lookup_cons]
    cases q : z == e.1 with
    | true => rw [beq_iff_eq.mp q] at hz ⊢; rw [if_neg hz]; exact if_pos rfl
    | false => by_cases hn : kindOf e.1 = some .local
               · rw [if_pos hn]; rfl
               · rw [if_neg hn]; exact if_neg (beq_eq_false_iff_ne.mp q)
theorem lk_of {α : Type} {l : List (Nat × α)} {x : Nat} {v : α} (nd : (l.map (·.1)).Nodup) (h : (x, v) ∈ l) : lk l x = some v := by
  induction l with
  | nil => exact absurd h List.not_mem_nil
  | cons e r ih =>
    have nd := List.nodup_cons.mp nd
    show cond (Nat.beq e.1 x) (some e.2) (lk r x) = some v
    cases List.mem_cons.mp h with
    | inl h => cases h; rw [Nat.beq_refl]; rfl
    | inr h =>
      cases q : Nat.beq e.1 x with
      | true => exact absurd (show e.1 ∈ r.map (·.1) from (Nat.eq_of_beq_eq_true q).symm ▸ List.mem_map_of_mem (f := (·.1)) h) nd.1
      | false => exact ih nd.2 h
theorem All2.mem_r {α β : Type} {R : α → β → Prop} {l : List α} {m : List β} (h : All2 R l m) : ∀ b ∈ m, ∃ a ∈ l, R a b := by
  induction h with
  | nil => exact nil_all
  | cons a _ ih => exact fun b q => (List.mem_cons.mp q).elim (fun q => ⟨_, .head _, q ▸ a⟩) fun q => let ⟨a, h, r⟩ := ih b q; ⟨a, .tail _ h, r⟩
theorem bound {loc : List (Nat × SV)} {binds : List (PySem.Str × Value)} (hrel : All2 (EN V ρ) loc binds) (nd : (loc.map (·.1)).Nodup) {z : Nat} {v : SV} (h : lk loc z = some v) : ∃ y, binds.reverse.lookup (nm z) = some y ∧ Den V ρ v y :=
  (lookup_of hrel.rev z).some (lk_of (by rw [List.map_reverse]; exact List.pairwise_reverse.mpr (nd.imp fun h => Ne.symm h)) (List.mem_reverse.mpr (lk_mem h))) fun y hy d => ⟨y, hy, d⟩
theorem del_none {l : List (Nat × SV)} {c : Nat} (nd : (l.map (·.1)).Nodup) : An (((del l c).map (·.1)).Nodup) (An (∀ e ∈ del l c, e ∈ l) (lk (del l c) c = none)) := by
  induction l with
  | nil => exact ⟨List.nodup_nil, fun _ h => h, rfl⟩
  | cons e r ih =>
    have nd := List.nodup_cons.mp nd
    have i := ih nd.2
    show An (((cond (Nat.beq e.1 c) r (e :: del r c)).map (·.1)).Nodup) (An (∀ a ∈ cond (Nat.beq e.1 c) r (e :: del r c), a ∈ e :: r) (lk (cond (Nat.beq e.1 c) r (e :: del r c)) c = none))
    cases q : Nat.beq e.1 c with
    | true => exact ⟨nd.2, fun a h => .tail _ h, lk_notin (Nat.eq_of_beq_eq_true q ▸ nd.1)⟩
    | false => exact ⟨List.nodup_cons.mpr ⟨fun hm => let ⟨a, ha, z⟩ := List.mem_map.mp hm; nd.1 (z ▸ List.mem_map_of_mem (i.2.1 a ha)), i.1⟩, fun a h => (List.mem_cons.mp h).elim (fun h => h ▸ .head _) fun h => .tail _ (i.2.1 a h),
        (show cond (Nat.beq e.1 c) (some e.2) (lk (del r c) c) = none by rw [q]; exact i.2.2)⟩
theorem mk_loc {cells : List Nat} : ∀ {σ : SS} {loc : List (Nat × SV)} {cs : List (Nat × Nat)} {x : Nat} {v : SV}, (loc.map (·.1)).Nodup → lk (makeCells σ loc cells cs).1 x = some v → x ∉ cells ∧ lk loc x = some v := by
  induction cells with
  | nil => exact fun _ h => ⟨List.not_mem_nil, h⟩
  | cons c r ih =>
    intro σ loc cs x v nd h
    have d := del_none (c := c) nd
    obtain ⟨h1, h2⟩ := ih (loc := del loc c) d.1 h
    have ne : x ≠ c := fun q => by cases (q ▸ h2).symm.trans d.2.2
    exact ⟨fun z => (List.mem_cons.mp z).elim ne h1, (lk_del ne).symm.trans h2⟩
theorem makeCells_le {cells : List Nat} : ∀ {σ : SS} {loc : List (Nat × SV)} {cs : List (Nat × Nat)}, σ.Le (makeCells σ loc cells cs).2.2 := by
  induction cells with
  | nil => exact .refl _
  | cons c r ih => exact SS.Le.new.trans ih
theorem lookup_in {l : List (PySem.Str × Addr)} {x : PySem.Str} (h : x ∈ l.map (·.1)) : ∃ a, l.lookup x = some a := by
  induction l with
  | nil => exact absurd h List.not_mem_nil
  | cons p l ih =>
    rw [List.lookup_cons]
    cases q : x == p.1 with
    | true => exact ⟨_, rfl⟩
    | false => exact ih ((List.mem_cons.mp h).resolve_left (beq_eq_false_iff_ne.mp q))
theorem apart_eq {l : List (PySem.Str × Addr)} (hp : l.Pairwise fun x y => x.2 ≠ y.2) {p q : PySem.Str × Addr} (h1 : p ∈ l) (h2 : q ∈ l) (e : p.2 = q.2) : p = q := by
  induction l with
  | nil => exact absurd h1 List.not_mem_nil
  | cons a l ih =>
    have hp := List.pairwise_cons.mp hp
    cases List.mem_cons.mp h1 with
    | inl g1 => cases List.mem_cons.mp h2 with
      | inl g2 => exact g1.trans g2.symm
      | inr g2 => exact absurd (g1 ▸ e) (hp.1 _ g2)
    | inr g1 => cases List.mem_cons.mp h2 with
      | inl g2 => exact absurd (g2 ▸ e.symm) (hp.1 _ g1)
      | inr g2 => exact ih hp.2 g1 g2
end
section
variable {fr₁ fr₂ : SFr} {fl : Fl} {k : Nat}
noncomputable def EnvIs (sc : Scope) (qual : PySem.Str) (cdv : Value) (env' : Env) (L' : Addr) : Prop := An (env'.scope = sc) (An (env'.qual = qual ++ ".<locals>.") (An (env'.code = cdv) (env'.locals = L')))
theorem EnvIs.ok {sc : Scope} {qual : PySem.Str} {cdv : Value} {env' : Env} {L' : Addr} {code : Option Addr} (h : EnvIs sc qual cdv env' L') (hc : ∀ a, code = some a → cdv = .ref a) : EnvOK ⟨sc, qual ++ ".<locals>.", code, false⟩ (X.inn env' L') :=
  ⟨h.1, h.2.1, fun a q => h.2.2.1.trans (hc a q), fun _ => ⟨h.2.2.2, rfl⟩⟩
theorem codeA_of {v : Value} {a : Addr} (h : codeA v = some a) : v = .ref a := by
  cases v with
  | ref b => cases h; rfl
  | _ => cases h
noncomputable def dum (X : Cx) (sc : Scope) (qual : PySem.Str) (cdv : Value) : Env := { X.env with scope := sc, qual := qual ++ ".<locals>.", code := cdv, locals := 0 }
theorem room (S : At X fr σ w) : X.A.depth < recursionLimit := Nat.lt_of_le_of_lt (Nat.le_trans (Nat.le_add_right ..) S.2.15) (by decide)
theorem fO_is {X' : Cx} (h : (fO X' σ fl).is σ) : (rO X σ (rsOf fl)).is σ := by cases fl <;> exact h
theorem callC (S : At X fr σ w) (hn : 1 ≤ X.n) {F : IFun} {D : FD} (FO : FunOK X.G X.P F D) {vs : List Value} {kw binds : List (PySem.Str × Value)} {loc : List (Nat × SV)} (hbind : BindsTo w.s D.fd ⟨vs, kw⟩ binds) (hrel : All2 (EN X.G.V w.ρ) loc binds) (hlt : ∀ e ∈ loc, e.2.lt σ.objs.length) (hps : loc.map (·.1) = F.params) {R : Result → Shared → Prop}
    (H : ∀ env' L', EnvIs D.scope D.qual D.cdv env' L' → XT (X.inn env' L') ⟨(makeCells σ loc F.cells []).1, (makeCells σ loc F.cells []).2.1⟩ (makeCells σ loc F.cells []).2.2 (PySem.execs D.body env') fl fr₂ σ₂)
    (k : ∀ w', Ex X.outer σ.objs.length w w' → At X fr σ₂ w' → (rO X σ₂ (rsOf fl)).post (resO R) (resE R) w') : codeAny X.M X.A (.call (.ref F.addr) ⟨vs, kw⟩) R w.s := by
  have nd : (loc.map (·.1)).Nodup := hps ▸ FO.3.2
  have hfree : ∀ n, (cellsFrom n D.scope.names []).map (·.1) = (cellsFrom 0 D.scope.names []).map (·.1) := fun n => cellsFrom_names D.scope.names n 0 [] [] rfl
  have hIn : ∀ n, ∀ c ∈ F.cells, ∃ a, (cellsFrom n D.scope.names []).lookup (nm c) = some a := fun n c hc => lookup_in ((hfree n).symm ▸ (FO.9 c hc).2)
  have hloc : ∀ e ∈ loc, e.1 ∉ F.cells → D.scope.names.lookup (nm e.1) = some .local := fun e he => FO.10 e.1 (hps ▸ List.mem_map_of_mem (f := (·.1)) he)
  refine codeAny_call_function (room S) (S.K _ _ FO.1) rfl FO.3.3 FO.3.4 rfl (codeRec_of S.K FO.2) (hbind _ _ _ _ ?_)
  refine wpAny_newFunctionEnv_cells FO.3.5 (fun x hx => ?_) fun env' he s' x => ?_
  · obtain ⟨e, he, q⟩ := hrel.mem_r x hx
    rw [q.1]
    by_cases hc : e.1 ∈ F.cells
    · exact .inr ⟨(FO.9 _ hc).1, Option.isSome_iff_exists.mpr (hIn (w.s.heap.objs.size + 1) _ hc)⟩
    · exact .inl (hloc e he hc)
  obtain ⟨h₁, tk, rfl, _⟩ := x.done
  have hkeep := x.toInCall.keep
  refine ⟨(S.2.8.keeps S.base).keeps hkeep, codeAny_func ?_⟩
  have e2 : env'.locals = w.s.heap.objs.size := by rw [he]; rfl
  have e3 : env'.cells = cellsFrom (w.s.heap.objs.size + 1) D.scope.names [] := by rw [he]; rfl
  have ek : ∀ z, env'.kindOf z = D.scope.names.lookup z := fun z => by rw [he]; rfl
  have EI : EnvIs D.scope D.qual D.cdv env' w.s.heap.objs.size := by rw [he]; exact ⟨rfl, rfl, rfl, rfl⟩
  have F' : Fs (X.inn env' w.s.heap.objs.size) := Fs.inn S hn (EI.1 ▸ FO.3.5) (by rw [he]; rfl) (by rw [he]; rfl) (by rw [he]; rfl) e2
  have S₀ := enter (tk := tk) (fr₁ := ⟨(makeCells σ loc F.cells []).1, []⟩) S F' hkeep (e2 ▸ x.toInCall.ns) e2 (fun z v hz => by
    obtain ⟨nc, hz⟩ := mk_loc nd hz
    have hm := lk_mem hz
    obtain ⟨y, hy, d⟩ := bound hrel nd hz
    exact ⟨hlt _ hm, y, (bindL_eq _ ((ek _).trans (hloc _ hm nc))).trans (by rw [hy]; rfl), d⟩) fun z i hz => nomatch hz
  have cad : ∀ c ∈ F.cells, ∃ a, env'.cells.lookup (nm c) = some a := fun c hc => e3 ▸ hIn _ c hc
  have hcad : ∀ c ∈ F.cells, env'.cells.lookup (nm c) = some ((env'.cells.lookup (nm c)).getD 0) := fun c hc => by
    obtain ⟨a, e⟩ := cad c hc
    rw [e]; rfl
  have above : ∀ c ∈ F.cells, w.s.heap.objs.size < (env'.cells.lookup (nm c)).getD 0 := fun c hc => e2 ▸ x.above (nm c) _ (mem_of_lookup (hcad c hc))
  obtain ⟨w₁, x₁, S₁, es⟩ := cells_ok (fun c => (env'.cells.lookup (nm c)).getD 0) FO.4 S₀ (fun c hc => ⟨hcad c hc, by
      show inCl w w.s.heap.objs.size _ = .non
      unfold inCl
      rw [if_neg (Nat.ne_of_gt (above c hc)), S.non (Heap.get?_none_of_le (Nat.le_of_lt (above c hc)))]; rfl, _, x.cell _ _ (hcad c hc), fun v hv => by
      obtain ⟨y, hy, d⟩ := bound hrel nd hv
      exact ⟨hlt _ (lk_mem hv), y, (bindC_eq _ (by rw [ek, (FO.9 c hc).1]; exact (nomatch ·))).trans (by rw [hy]; rfl), d⟩⟩) fun c hc c' hc' q => nm_inj (congrArg Prod.fst (apart_eq x.apart (mem_of_lookup (hcad c hc)) (mem_of_lookup (hcad c' hc')) q))
  have es : w₁.s = { w.s with heap := h₁, toks := tk } := es
  rw [← es]
  exact body_ok S rfl S₁ x₁ makeCells_le (H env' _ EI) k
theorem callTop_ok {k : Nat} (C : Cs k) (hy : Hy X) (hk : fu k + 1 ≤ X.n) {a : Nat} {F : IFun} {args : List SV} {kws : List (Nat × SV)} (hF : findFun a X.P.funs = some F) :
    Ok2 (callF F.params F.dflts F.cells [] args kws σ fun fr σ => b3 (execs (run X.P k) X.hd F.body fr σ) fun fl _ σ => some (rsOf fl, σ)) fun r σ' => CT X fr σ (.top a) args kws r σ' := by
  obtain ⟨ea, D, FO⟩ := (hy X.G.pin).2 a F hF
  refine .wh fun hkw => .then (x := Mine.bindArgs kws F.dflts F.params args) (bindVM FO.3.2) fun loc B => .b3 (ψ := fun fl fr' σ' => ∀ env' L', EnvIs D.scope D.qual D.cdv env' L' → XT (X.inn env' L') ⟨(makeCells σ loc F.cells []).1, (makeCells σ loc F.cells []).2.1⟩ (makeCells σ loc F.cells []).2.2 (PySem.execs D.body env') fl fr' σ') (.all fun env' => .all fun L' => .all fun EI => execs_ok ((C (X.inn env' L') hy (Nat.le_sub_one_of_lt hk)).5 40 _ (EI.ok fun a => codeA_of) rfl rfl) FO.12) fun fl fr' σ' H => .ret ?_
  have du := H (dum X D.scope D.qual D.cdv) 0 ⟨rfl, rfl, rfl, rfl⟩
  cases ea
  refine ⟨makeCells_le.trans du.1, fO_is du.2, fun w y S d => ?_, fun w y ys ws R S dy da dk kk => ?_⟩
  · cases d.1; exact kp_fn (S.K _ _ FO.1) rfl
  · cases dy.1
    obtain ⟨binds, hB, hR⟩ := bind_rel (fd := D.fd) rfl FO.3.1 (FO.5.imp id fun ⟨T, o, n, e1, e2, e3⟩ => ⟨T, o, n, e1, S.K _ _ e2, e3⟩) FO.3.2 B hkw da.1 dk.1 FO.6 (FO.8 w.ρ) FO.7
    have dl : ∀ e ∈ F.dflts, e.2.lt σ.objs.length := by
      have : ∀ {l : List (Nat × SV)} {m : List Value}, All2 (fun (e : Nat × SV) y => An (Den X.G.V w.ρ e.2 y) e.2.still) l m → ∀ e ∈ l, e.2.lt σ.objs.length := fun {l m} h => by
        induction h with
        | nil => exact nil_all
        | cons a _ ih => exact fun e q => (List.mem_cons.mp q).elim (fun q => q ▸ SV.still_lt a.2 _) (ih e)
      exact this (FO.8 w.ρ)
    exact callC S (Nat.le_trans (Nat.le_add_left ..) hk) FO hB hR (bv_lt B da.2 dk.2 dl) B.1 H kk
end
section
variable {fr₁ fr₂ : SFr} {fl : Fl} {k : Nat} {fv : SV} {args : List SV} {kws : List (Nat × SV)} {r : Rs}
theorem CT.cw (H : CT X fr σ fv args kws r σ') : CW X fr σ fv args kws r σ' := ⟨H.1, H.2, H.3, fun w y ys ws Q E S dy da dk k => wpAny_call (H.4 w y ys ws _ S dy da dk fun w' x' S' => by
  have g := k w' x' S'
  cases r with
  | ok v => exact g
  | exc e => exact g)⟩
theorem lookup_cells {cs : List (Nat × Nat)} {x i : Nat} (h : lk cs x = some i) : (cellsOf ρ cs).lookup (nm x) = some (ρ i) := by
  induction cs with
  | nil => cases h
  | cons e cs ih =>
    have h : cond (Nat.beq e.1 x) (some e.2) (lk cs x) = some i := h
    show (match nm x == nm e.1 with | true => some (ρ e.2) | false => (cellsOf ρ cs).lookup (nm x)) = _
    cases q : Nat.beq e.1 x with
    | true => rw [q] at h; cases h; rw [Nat.eq_of_beq_eq_true q, beq_self_eq_true]
    | false => rw [q] at h; rw [beq_eq_false_iff_ne.mpr fun z => beq_false q (nm_inj z).symm]; exact ih h
inductive FnAtO (X : Cx) (w : Wd) (i k n : Nat) (cs : List (Nat × Nat)) : Prop | mk (fd : FuncData) (o : Obj) (e : w.s.heap.get? (w.ρ i) = some o) (d : o.data = .func fd) (ps : fd.params = (X.G.code k).params) (bd : fd.body = (X.G.code k).body) (sc : fd.scope = (X.G.code k).scope) (ql : fd.qualname = (X.G.code k).qual)
  (gl : fd.globals = mainGlobals) (bu : fd.builtins = builtinsNs) (cl : fd.closure = cellsOf w.ρ cs) (df : fd.defaults = .none) (rec : w.s.heap.CodeRec fd.code fd.qualname) (lt : ∀ e ∈ cs, e.2 < n)
theorem At.fnAt (S : At X fr σ w) {i k : Nat} {cs : List (Nat × Nat)} (hi : σ.objs[i]? = some (.fn k cs)) : FnAtO X w i k σ.objs.length cs := by
  have O := S.1 i _ hi
  cases O.1 with | mk o e d x => cases d with | mk c ct doc => exact .mk _ _ e rfl rfl rfl rfl rfl rfl rfl rfl rfl x O.3
theorem entry_plain {M : Model} {A : Around} {E : Value → Shared → Prop} (S : At X fr σ w) (hn : 1 ≤ X.n) {a : Addr} {fd : FuncData} {binds : List (PySem.Str × Value)} {loc : List (Nat × SV)} {cs : List (Nat × Nat)} (hgl : fd.globals = mainGlobals) (hbu : fd.builtins = builtinsNs)
    (hrel : All2 (EN X.G.V w.ρ) loc binds) (hlt : ∀ e ∈ loc, e.2.lt σ.objs.length) (nd : (loc.map (·.1)).Nodup) (hloc : ∀ e ∈ loc, fd.scope.names.lookup (nm e.1) = some .local) (hnc : ∀ x ∈ fd.scope.names, x.2 ≠ .cell)
    (hcl : fd.closure = cellsOf w.ρ cs) (hcs : ∀ e ∈ cs, e.2 < σ.objs.length) (hk : fd.scope.kind = .function) {Q : Env → Shared → Prop}
    (h : ∀ env' h₁ tk m', EnvIs fd.scope fd.qualname fd.code env' w.s.heap.objs.size → h₁.NoLimit → At (X.inn env' w.s.heap.objs.size) ⟨loc, cs⟩ σ (w.inn h₁ tk m') → Q env' { w.s with heap := h₁, toks := tk }) :
    wpAny M A (newFunctionEnv fd.scope fd.globals fd.closure binds (fd.qualname ++ ".<locals>.") (some a) fd.code none fd.builtins) Q E w.s := by
  refine wpAny_newFunctionEnv hnc (fun x hx => ?_) (fun h₁ hns hsb => ?_) hk
  · obtain ⟨e, he, q⟩ := hrel.mem_r x hx
    rw [q.1]; exact hloc e he
  · have hkeep : ∀ b o, w.s.heap.get? b = some o → h₁.get? b = some o := fun b o e => hsb.extBut b o (Nat.ne_of_lt (Heap.lt_size e)) (Heap.get?_push_of_some _ e)
    refine h _ h₁ _ _ ⟨rfl, rfl, rfl, rfl⟩ ((S.2.8.keeps S.base).keeps hkeep) (enter S (Fs.inn S hn hk hgl hbu rfl rfl) hkeep hns rfl (fun z v hz => ?_) fun x i hx => ⟨hcl ▸ lookup_cells hx, hcs _ (lk_mem hx)⟩)
    obtain ⟨y, hy, d⟩ := bound hrel nd hz
    exact ⟨hlt _ (lk_mem hz), y, hy, d⟩
theorem callFn_ok {k : Nat} (C : Cs k) (hy : Hy X) (hk : fu k + 1 ≤ X.n) {i j : Nat} {cs : List (Nat × Nat)} {c : ICode} (hi : σ.objs[i]? = some (.fn j cs)) (hc : X.P.codes[j]? = some c) :
    Ok2 (callF c.params [] [] cs args kws σ fun fr σ => optE c.lam (b3 (execs (run X.P k) X.hd c.body fr σ) fun fl _ σ => some (rsOf fl, σ)) fun e => okE ((run X.P k).ev e X.hd fr σ) fun v σ => okv v σ) fun r σ' => CT X fr σ (.ref i) args kws r σ' := by
  cases (hy X.G.pin).3 j c hc with
  | mk ns e sig locs nocell body =>
    have hn : 1 ≤ X.n := Nat.le_trans (Nat.le_add_left ..) hk
    refine .wh fun hkw => .then (x := Mine.bindArgs kws [] c.params args) (bindVM sig.2) fun loc B => ?_
    have nd : (loc.map (·.1)).Nodup := B.1 ▸ sig.2
    have hl : ∀ e ∈ loc, (X.G.code j).scope.names.lookup (nm e.1) = some .local := fun e he => locs e.1 (B.1 ▸ List.mem_map_of_mem (f := (·.1)) he)
    have kp : ∀ w y, At X fr σ w → DV X.G.V σ.objs.length (.ref i) w.ρ y → KpOK X.M y w.s.heap := fun w y S d => by
      cases d.1
      cases S.fnAt hi with | mk fd o e d => exact kp_fn e d
    have bnd : ∀ {w : Wd} {fd : FuncData} {ys ws}, fd.params = (X.G.code j).params → fd.defaults = .none → DVs X.G.V σ.objs.length args w.ρ ys → KWs X.G.V σ.objs.length kws w.ρ ws → ∃ binds, BindsTo w.s fd ⟨ys, ws⟩ binds ∧ All2 (EN X.G.V w.ρ) loc binds := fun {w fd ys ws} h1 h2 da dk =>
      bind_rel (items := []) (h1.trans e) sig.1 (.inl ⟨h2, rfl⟩) sig.2 B hkw da.1 dk.1 (by rw [List.length_nil, Nat.sub_zero, List.drop_length]; rfl) .nil (Nat.zero_le _)
    refine .opt (fun hlam => ?_) fun le hlam => ?_
    · rw [hlam] at body
      obtain ⟨b, hb, hden⟩ := body
      refine .b3 (ψ := fun fl fr' σ' => ∀ env' L' cdv, EnvIs (X.G.code j).scope (X.G.code j).qual cdv env' L' → XT (X.inn env' L') ⟨loc, cs⟩ σ (PySem.execs b env') fl fr' σ') (.all fun env' => .all fun L' => .all fun cdv => .all fun EI => execs_ok ((C (X.inn env' L') hy (Nat.le_sub_one_of_lt hk)).5 40 _ (EI.ok (code := none) fun a q => nomatch q) rfl rfl) hden) fun fl fr' σ' H => .ret ?_
      have du := H (dum X (X.G.code j).scope (X.G.code j).qual .none) 0 .none ⟨rfl, rfl, rfl, rfl⟩
      refine ⟨du.1, fO_is du.2, kp, fun w y ys ws R S dy da dk kk => ?_⟩
      cases dy.1
      cases S.fnAt hi with
      | mk fd o e d h1 h2 h3 h4 h5 h6 h7 h8 h9 h10 =>
        obtain ⟨binds, hB, hR⟩ := bnd h1 h8 da dk
        refine codeAny_call_function (room S) e d (h3 ▸ sig.3) (h3 ▸ sig.4) (h2.trans hb) h9 (hB _ _ _ _ (entry_plain S hn h5 h6 hR (bv_lt B da.2 dk.2 nil_all) nd (h3 ▸ hl) (h3 ▸ nocell) h7 h10 (h3 ▸ sig.5) fun env' h₁ tk m' EI nl S₁ => ⟨nl, codeAny_func ?_⟩))
        rw [h3, h4] at EI
        exact body_ok S rfl S₁ (.refl ..) (.refl _) (H env' _ fd.code EI) kk
    · rw [hlam] at body
      obtain ⟨x, hb, hden⟩ := body
      refine .okE (ψ := fun r σ' => ∀ env' L' cdv, EnvIs (X.G.code j).scope (X.G.code j).qual cdv env' L' → VT (X.inn env' L') ⟨loc, cs⟩ σ (eval x env') r σ') (.all fun env' => .all fun L' => .all fun cdv => .all fun EI => (C (X.inn env' L') hy (Nat.le_sub_one_of_lt hk)).1 40 _ (EI.ok (code := none) fun a q => nomatch q) le x ⟨loc, cs⟩ σ hden) fun v σ' H => .ret ?_
      have du := H (dum X (X.G.code j).scope (X.G.code j).qual .none) 0 .none ⟨rfl, rfl, rfl, rfl⟩
      refine ⟨du.1, trivial, kp, fun w y ys ws R S dy da dk kk => ?_⟩
      cases dy.1
      cases S.fnAt hi with
      | mk fd o e d h1 h2 h3 h4 h5 h6 h7 h8 h9 h10 =>
        obtain ⟨binds, hB, hR⟩ := bnd h1 h8 da dk
        refine kla_callFunE (room S) e d (h3 ▸ sig.3) (h3 ▸ sig.4) (h2.trans hb) h9 (hB _ _ _ _ (entry_plain S hn h5 h6 hR (bv_lt B da.2 dk.2 nil_all) nd (h3 ▸ hl) (h3 ▸ nocell) h7 h10 (h3 ▸ sig.5) fun env' h₁ tk m' EI nl S₁ => ⟨nl, kla_codeExpr ?_⟩))
        rw [h3, h4] at EI
        refine (H env' _ fd.code EI).3 _ _ _ trivial S₁ fun w2 x2 S2 y d => ?_
        obtain ⟨w3, x3, S3, e3, e4⟩ := leave S S2 rfl x2 du.1
        exact e3 ▸ kk w3 x3 S3 y (e4.symm ▸ d)
theorem callBm {i g : Nat} {self : SV} {F : IFun} (hy : Hy X) (hi : σ.objs[i]? = some (.bm g self)) (hF : findFun g X.P.funs = some F) (H : CT X fr σ (.top g) (self :: args) kws r σ') : CT X fr σ (.ref i) args kws r σ' :=
  ⟨H.1, H.2, fun w y S d => by
    cases d.1
    obtain ⟨ea, D, FO⟩ := (hy X.G.pin).2 g F hF
    cases ea
    exact S.at_ hi fun o e d => by cases d with | mk v dv => exact kp_bm e (S.K _ _ FO.1) rfl, fun w y ys ws R S dy da dk k => by
    cases dy.1
    refine S.at_ hi fun o e d => ?_
    cases d with
    | mk v dv => exact method_call e (H.4 w (.ref g) (v :: ys) ws R S ⟨rfl, trivial⟩ ⟨.cons dv da.1, fun u hu => (List.mem_cons.mp hu).elim (fun q => q ▸ S.ltO hi) (da.2 u)⟩ dk k)⟩
end
section
variable {fr₁ fr₂ : SFr} {k : Nat} {fs : List Nat} {cs : List (Nat × Nat)}
theorem frees_keys : Ok (frees fr fs) fun cs => An (cs.map (·.1) = fs) (∀ p ∈ cs, lk fr.cel p.1 = some p.2) := by
  induction fs with
  | nil => exact .ret ⟨rfl, nil_all⟩
  | cons x r ih => exact .bind fun i hi => .then (x := frees fr r) ih fun l A => .ret ⟨congrArg (x :: ·) A.1, fun p hp => (List.mem_cons.mp hp).elim (fun q => q ▸ hi) (A.2 p)⟩
theorem free_fold {g : PySem.Str → Addr} {l : List (PySem.Str × NameKind)} : ∀ {acc : List (PySem.Str × Addr)}, l.foldl (fun acc x => if x.2 == .free then (x.1, g x.1) :: acc else acc) acc = (((l.filter fun y => y.2 == .free).map (·.1)).map fun n => (n, g n)).reverse ++ acc := by
  induction l with
  | nil => exact fun {acc} => rfl
  | cons y l ih =>
    intro acc
    rw [List.foldl_cons, ih]
    by_cases q : (y.2 == .free) = true
    · rw [if_pos q, List.filter_cons, if_pos q, List.map_cons, List.map_cons, List.reverse_cons, List.append_assoc]; rfl
    · rw [if_neg q, List.filter_cons, if_neg q]
theorem closure_ok (S : At X fr σ w) {scope : Scope} (hf : frees fr fs = some cs) (hs : frOK scope fs = true) : closureFor scope X.env = pure (cellsOf w.ρ cs) := by
  have hs : (scope.names.filter fun y => y.2 == .free).map (·.1) = (fs.map nm).reverse := of_decide_eq_true hs
  have K := frees_keys _ hf
  have hin : ∀ p ∈ cs, X.env.cells.lookup (nm p.1) = some (w.ρ p.2) := fun p hp => (S.9 p.1 p.2 (K.2 p hp)).1
  have hcell : ∀ y ∈ scope.names, (y.2 == .free) = true → ∃ a, X.env.cells.lookup y.1 = some a := fun y hy hk => by
    have m : y.1 ∈ (scope.names.filter fun y => y.2 == .free).map (·.1) := List.mem_map_of_mem (List.mem_filter.mpr ⟨hy, hk⟩)
    rw [hs, List.mem_reverse] at m
    obtain ⟨x, hx, q⟩ := List.mem_map.mp m
    obtain ⟨p, hp, rfl⟩ := List.mem_map.mp (K.1.symm ▸ hx : x ∈ cs.map (·.1))
    exact ⟨_, q ▸ hin p hp⟩
  have e : forIn scope.names ([] : List (PySem.Str × Addr)) (fun x s => if (x.2 == .free) = true then cellOf X.env x.1 >>= fun a => pure (ForInStep.yield ((x.1, a) :: s)) else pure (ForInStep.yield s)) = (pure (cellsOf w.ρ cs) : Sem _) := by
    refine (forIn_path (g := fun acc x => if x.2 == .free then (x.1, (X.env.cells.lookup x.1).getD 0) :: acc else acc) scope.names [] fun pre x post e => ?_).trans ?_
    · generalize pre.foldl _ _ = acc
      by_cases q : (x.2 == .free) = true
      · rw [if_pos q, if_pos q]
        obtain ⟨a, ha⟩ := hcell x (e ▸ List.mem_append_right _ (.head _)) q
        unfold cellOf
        rw [ha]; rfl
      · rw [if_neg q, if_neg q]
    · rw [free_fold (g := fun n => (X.env.cells.lookup n).getD 0), hs, List.map_reverse, List.reverse_reverse, List.append_nil, ← K.1]
      refine congrArg pure ?_
      unfold cellsOf
      rw [List.map_map, List.map_map]
      exact List.map_congr_left fun p hp => congrArg (Prod.mk (nm p.1)) (by rw [hin p hp]; rfl)
  exact (congrArg (· >>= pure) e)
theorem among_snoc {pos : Pos} {a b : Int} {c : Value} : ∀ {l : List Value}, TriplesOk l → codeAmong pos (l ++ [rawInt a, rawInt b, c]) = (codeAmong pos l).or (if a == pos.line && b == pos.col then some c else none)
  | [], _ => by
    show codeAmong pos [rawInt a, rawInt b, c] = _
    unfold rawInt codeAmong
    split <;> rfl
  | .int x t :: .int y u :: z :: r, h => by
    have h' : TriplesOk r := h
    show codeAmong pos (.int x t :: .int y u :: z :: (r ++ [rawInt a, rawInt b, c])) = _
    unfold codeAmong
    split
    · rfl
    · exact among_snoc h'
theorem tab_soft {ps : Array Value} (hT : TriplesOk ps.toList) : Soft (tabObj ps) := .fields rfl fun q u z => triples_no_str hT q u ((Array.getElem?_toList ..).trans z)
theorem tabs_eq {l : List Tab} (hp : l.Pairwise fun a b => a.P ≠ b.P) {a b : Tab} (ha : a ∈ l) (hb : b ∈ l) (e : a.P = b.P) : a = b := by
  induction l with
  | nil => exact absurd ha List.not_mem_nil
  | cons x l ih =>
    have hp := List.pairwise_cons.mp hp
    cases List.mem_cons.mp ha with
    | inl g1 => cases List.mem_cons.mp hb with
      | inl g2 => exact g1.trans g2.symm
      | inr g2 => exact absurd (g1 ▸ e) (hp.1 _ g2)
    | inr g1 => cases List.mem_cons.mp hb with
      | inl g2 => exact absurd (g2 ▸ e.symm) (hp.1 _ g1)
      | inr g2 => exact ih hp.2 g1 g2
theorem tabUpd (S : At X fr σ w) {t : Tab} (ht : t ∈ X.tabs) {h' : Heap} {tk : Nat} {ps : Array Value} (hP : w.s.heap.get? t.P = some (tabObj ps)) (hT : TriplesOk ps.toList) (hk : Heap.ExtBut t.P w.s.heap h') (hnew : TabOK h' t) : At X fr σ (w.hp h' tk) := by
  have ct := (S.10 t ht).2
  have hk' : ∀ b o, w.s.heap.get? b = some o → ¬ b = t.P → h'.get? b = some o := fun b o e n => hk b o n e
  have soft : ∀ b o, b = t.P → w.s.heap.get? b = some o → Soft o := fun b o q e => Option.some.inj (hP.symm.trans (q ▸ e)) ▸ tab_soft hT
  have ne : ∀ {b c}, w.cl b = c → c ≠ .tab → ¬ b = t.P := fun h n q => n (h.symm.trans (q ▸ ct))
  refine .mk (fun i so e => ?_) S.2 (fun b o e => have q := S.3 b o e; ⟨hk' b o q.1 (ne q.2 (nomatch ·)), q.2⟩) (ns_at S.4 fun o e => hk' _ o e (ne S.6 (nomatch ·))) (ns_at S.5 fun o e => hk' _ o e (ne S.7 (by unfold Cx.lc; cases X.lm <;> exact (nomatch ·)))) S.6 S.7 (fun x v q => by cases S.8 x v q with | mk l y e d => exact ⟨l, y, e, d⟩) S.9 (fun t' ht' => ?_) S.11 S.12 S.13
    (fun e he => by cases S.14 e he with | mk is h t => obtain ⟨C, d, hi⟩ := is; cases t with | mk o g T f => exact ⟨⟨C, d, hi⟩, h, o, hk' _ o g (ne (S.1 e _ hi).2 (nomatch ·)), T, f⟩) S.15 S.16 S.17 S.18 S.19 fun b hb => ?_
  · have O := S.1 i so e
    exact ⟨OI.mv (n := σ.objs.length) (Ch := fun b => b = t.P) hk' soft (fun T x => by cases x with | mk o g f c => exact ⟨o, hk' T o g (ne c (nomatch ·)), f, c⟩) (ne O.2 (nomatch ·)) rfl (fun _ _ => rfl) O.3 O.1, O.2, O.3⟩
  · have q := S.10 t' ht'
    by_cases z : t'.P = t.P
    · exact tabs_eq S.2.14.1 ht' ht z ▸ ⟨hnew, ct⟩
    · exact ⟨q.1.same (Ch := fun b => b = t.P) hk' soft z, q.2⟩
  · obtain ⟨o, e⟩ := S.20 b hb
    by_cases z : b = t.P
    · cases hnew with | mk ps' e' _ _ => exact ⟨_, z ▸ e'⟩
    · exact ⟨o, hk' b o e z⟩
inductive Mkr (X : Cx) (w : Wd) (r : Rq) (t : Tab) : Prop | mk (ps : Array Value) (hC : CodeHd w.s.heap r.c t.P) (hP : w.s.heap.get? t.P = some (tabObj ps)) (hT : TriplesOk ps.toList) (hg : w.s.heap.Ns mainGlobals X.G.mg) (hgP : mainGlobals ≠ t.P) (hb : w.s.heap.BuiltinsAt X.G.mg t.P)
  (at_ : ∀ q ∈ t.at_, codeAmong q.1 ps.toList = none ∨ ∃ c, codeAmong q.1 ps.toList = some (.ref c) ∧ w.s.heap.CodeRec (.ref c) q.2) (ht : t ∈ X.tabs)
theorem At.mkr (S : At X fr σ w) {r : Rq} {t : Tab} (h7 : X.G.tabOf r.c = some t) : Mkr X w r t := by
  have T := S.2.14
  have T2 := T.2 r.c t h7
  have q := S.10 t T2.1
  have nb : ∀ b o, X.base.get? b = some o → b ≠ t.P := fun b o e z => nomatch (q.2.symm.trans (congrArg w.cl z).symm).trans (S.3 b o (S.17 b o e)).2
  obtain ⟨bm, o, b1, b2, b3, b4, b5, b6, b7⟩ := T.4
  cases q.1 with
  | mk ps e r' a => exact .mk ps (T2.2.keeps S.base) e r' (S.2.6.keeps S.base) (by obtain ⟨_, _, _, e, _⟩ := S.2.6; exact nb _ _ e) ⟨bm, o, b1, b2, b3, nb _ _ b4, S.base _ _ b4, b5, b6, b7⟩ a T2.1
theorem tabNew (S : At X fr σ w) {r : Rq} {t : Tab} {ps : Array Value} {c' : Nat} {h' : Heap} {tk : Nat} (ht : t ∈ X.tabs) (hP : w.s.heap.get? t.P = some (tabObj ps)) (hT : TriplesOk ps.toList) (hat : ∀ q ∈ t.at_, codeAmong q.1 ps.toList = none ∨ ∃ c, codeAmong q.1 ps.toList = some (.ref c) ∧ w.s.heap.CodeRec (.ref c) q.2)
    (h8 : (r.p, r.spec.qual) ∈ t.at_) (hx : Heap.ExtBut t.P w.s.heap h') (hrec : h'.CodeRec (.ref c') r.spec.qual) (htb : h'.get? t.P = some (tabObj (ps ++ #[rawInt r.p.line, rawInt r.p.col, Value.ref c']))) : At X fr σ (w.hp h' tk) := by
  have e1 : (ps ++ #[rawInt r.p.line, rawInt r.p.col, Value.ref c']).toList = ps.toList ++ [rawInt r.p.line, rawInt r.p.col, .ref c'] := Array.toList_append
  refine tabUpd S ht hP hT hx ⟨_, htb, e1 ▸ TriplesOk_snoc _ _ _ _ hT, fun q hq => ?_⟩
  rw [e1, among_snoc hT]
  rcases hat q hq with h1 | ⟨cq, h1, h2⟩
  · rw [h1, Option.none_or]
    cases z : ((r.p.line : Int) == (q.1.line : Int) && (r.p.col : Int) == (q.1.col : Int)) with
    | true =>
      have z := an_bool z
      exact .inr ⟨c', rfl, S.2.14.3 t ht _ h8 q hq (Int.ofNat_inj.mp (beq_iff_eq.mp z.1)) (Int.ofNat_inj.mp (beq_iff_eq.mp z.2)) ▸ hrec⟩
    | false => exact .inl rfl
  · rw [h1]
    exact .inr ⟨cq, rfl, codeRec_same (Ch := fun b => b = t.P) (fun b o e hb => hx b o hb e) (fun b o q e => Option.some.inj (hP.symm.trans (q ▸ e)) ▸ tab_soft hT) h2⟩
theorem rec_push {h : Heap} {o : Obj} {c : Value} {q : PySem.Str} (x : h.CodeRec c q) : (h.push o).CodeRec c q := codeRec_same (Ch := fun _ => False) (fun b o e _ => Heap.get?_push_of_some _ e) (fun _ _ z => z.elim) x
theorem fn_obj {name qual : PySem.Str} {ar : Arguments} {bd : FuncBody} {sc : Scope} {c ct doc pm : Value} (hs : G.code k = ⟨name, qual, ar, bd, sc⟩) (hp : pm = G.pm) : FnD G ρ k cs { cls := .type "function", data := .func { name := name, qualname := qual, params := ar, body := bd, scope := sc, globals := mainGlobals, closure := cellsOf ρ cs, defaults := .none, kwdefaults := .none, doc := doc, pyModule := pm, annotations := none, code := c, closureTuple := ct, builtins := builtinsNs } } := by
  have g := FnD.mk (G := G) (ρ := ρ) (k := k) (cs := cs) c ct doc
  rw [hs] at g
  cases hp
  exact g
theorem ev_lam {args : Arguments} {body : Expr} {scope : Scope} {p : Pos} {c : Addr} {qual : PySem.Str} (M : Met X.G ⟨k, ⟨"<lambda>", qual ++ "<lambda>", args, .expr body, scope⟩, c, p⟩) (h5 : X.env.qual = qual) (h6 : X.env.code = .ref c) (h9 : args.defaults = []) (h10 : args.kw_defaults = []) (h11 : frOK scope fs = true) (hf : frees fr fs = some cs) :
    HV X fr σ (eval (.Lambda args body scope p) X.env) (.ref σ.objs.length) (σ.new (.fn k cs)) :=
  ⟨.new, trivial, fun w Q E _ S kk => by
    cases M with
    | mk hs t h7 h8 => cases S.mkr h7 with
      | mk ps hC hP hT hg hgP hb hat ht =>
        have hcl := closure_ok S hf h11
        have hlt : ∀ e ∈ cs, e.2 < σ.objs.length := fun e he => (S.9 e.1 e.2 ((frees_keys _ hf).2 e he)).2
        have hdef : defaultsOf args X.env = ([], []) := by
          obtain ⟨a1, a2, a3, a4, a5, a6, a7⟩ := args
          cases h9; cases h10; rfl
        have fin : ∀ (c' ct : Value) (h' : Heap) (tk : Nat), At X fr σ (w.hp h' tk) → h'.CodeRec c' (qual ++ "<lambda>") → Q (.ref h'.objs.size) { w.s with heap := h'.push { cls := .type "function", data := .func (kla_fn "<lambda>" (X.env.qual ++ "<lambda>") args body scope (cellsOf w.ρ cs) ((X.G.mg "__name__").getD .none) c' ct) }, toks := tk } := fun c' ct h' tk S' hc =>
          newQ (w' := w.hp h' tk) kk .hp (Nat.le_refl _) (new S' (fun b o e => Heap.get?_push_of_some _ e) none_size (Heap.get?_push_size _ rfl) (h5 ▸ fn_obj hs S.2.14.5) (rec_push (hs ▸ hc)) hlt)
        refine kla_eval hdef ?_
        rcases hat _ h8 with hnf | ⟨cv, hfnd, hrec⟩
        · exact kla_makeFunction hcl S.2.3 hg h6 hC hP hT hnf hgP hb fun c' ctv h' tk hx hge hlt' hrec htb => fin (.ref c') ctv h' tk (tabNew (r := ⟨k, ⟨"<lambda>", qual ++ "<lambda>", args, .expr body, scope⟩, c, p⟩) S ht hP hT hat h8 hx (h5 ▸ hrec) htb) (h5 ▸ hrec)
        · exact kla_makeFunctionHit hcl S.2.3 hg h6 hC hP hT hfnd hb fun ctv h' tk hx hsz => fin _ ctv h' tk (keep S hx) (codeRec_same (Ch := fun _ => False) (fun b o e _ => hx b o e) (fun _ _ z => z.elim) hrec)⟩
theorem ex_def {x : Nat} {params : Arguments} {body : List Stmt} {scope : Scope} {p : Pos} {c : Addr} {qual : PySem.Str} (M : Met X.G ⟨k, ⟨nm x, qual ++ nm x, params, .stmts body, scope⟩, c, p⟩) (h5 : X.env.qual = qual) (h6 : X.env.code = .ref c) (h9 : params.defaults = []) (h10 : params.kw_defaults = []) (hann : annTrees params none X.env = []) (h11 : frOK scope fs = true) (hf : frees fr fs = some cs)
    (hx : X.env.scope.names.lookup (nm x) = some .local) : XT X fr σ (PySem.exec (.FunctionDef (nm x) params body [] none [] scope none (nm x) p) X.env) .next (fr.put x (.ref σ.objs.length)) (σ.new (.fn k cs)) :=
  ⟨.new, trivial, fun w Q E _ S kk => by
    cases M with
    | mk hs t h7 h8 => cases S.mkr h7 with
      | mk ps hC hP hT hg hgP hb hat ht =>
        have hcl := closure_ok S hf h11
        have hlt : ∀ e ∈ cs, e.2 < σ.objs.length := fun e he => (S.9 e.1 e.2 ((frees_keys _ hf).2 e he)).2
        have hq : qualnameIn X.env (nm x) (nm x) = qual ++ nm x := by
          unfold qualnameIn
          rw [show X.env.kindOf (nm x) = some .local from hx, h5]; rfl
        have fin : ∀ (c' ct doc : Value) (h' : Heap) (tk : Nat), At X fr σ (w.hp h' tk) → h'.CodeRec c' (qual ++ nm x) → wpAny X.M X.A (storeName X.env (nm x) (.ref h'.objs.size)) (fun _ s'' => Q .next s'') E { w.s with heap := h'.push { cls := .type "function", data := .func (fnX (nm x) (qualnameIn X.env (nm x) (nm x)) params body scope (cellsOf w.ρ cs) .none .none doc ((X.G.mg "__name__").getD .none) none c' ct) }, toks := tk } := fun c' ct doc h' tk S' hc => by
          have hc : h'.CodeRec c' (X.G.code k).qual := (congrArg CodeSpec.qual hs).symm ▸ hc
          have S2 := new (so := .fn k cs) (t := tk) (h' := h'.push { cls := .type "function", data := .func (fnX (nm x) (qualnameIn X.env (nm x) (nm x)) params body scope (cellsOf w.ρ cs) .none .none doc ((X.G.mg "__name__").getD .none) none c' ct) }) (o := { cls := .type "function", data := .func (fnX (nm x) (qualnameIn X.env (nm x) (nm x)) params body scope (cellsOf w.ρ cs) .none .none doc ((X.G.mg "__name__").getD .none) none c' ct) }) S' (fun b o e => Heap.get?_push_of_some _ e) none_size (Heap.get?_push_size _ rfl) (hq ▸ fn_obj (doc := doc) (c := c') (ct := ct) (pm := (X.G.mg "__name__").getD .none) hs S.2.14.5) (rec_push hc) hlt
          exact wpAny_storeName_local hx S2.5 (fun h2 hn hs => kk _ (Ex.trans (.hp (w := w) (h := h') (t := tk)) (Nat.le_refl _) (Ex.trans .al (Nat.le_refl _) .nms)) (S2.put (v := .ref σ.objs.length) (t := tk + 1) ⟨congrArg Value.ref grow_eq.symm, Nat.lt_of_lt_of_eq (Nat.lt_succ_self _) SS.len_new.symm⟩ hn hs) _ rfl) (fnK S)
        refine nestDef_K h9 h10 hann ?_
        rcases hat _ h8 with hnf | ⟨cv, hfnd, hrec⟩
        · exact makeFunction_K hcl S.2.3 hg h6 hC hP hT hnf hgP hb fun c' ctv doc h' tk hx hge hlt' hrec htb => fin (.ref c') ctv doc h' tk (tabNew (r := ⟨k, ⟨nm x, qual ++ nm x, params, .stmts body, scope⟩, c, p⟩) S ht hP hT hat h8 hx (hq ▸ hrec) htb) (hq ▸ hrec)
        · exact makeFunction_hit hcl S.2.3 hg h6 hC hP hT hfnd hb fun ctv doc h' tk hx hsz => fin _ ctv doc h' tk (keep S hx) (codeRec_same (Ch := fun _ => False) (fun b o e _ => hx b o e) (fun _ _ z => z.elim) hrec)⟩
end
section
variable {fr₁ fr₂ : SFr} {k : Nat} {σ₄ : SS} {M : Model} {A : Around} {E : Value → Shared → Prop} {s : Shared} {env : Env} {pos : Pos} {rE : CK → IE → Expr → Fo}
theorem plain_each (hp : ∀ {e x}, (rE c e x).den G → plB x = true) {l : List IE} : ∀ {m : List Expr}, (ckEs rE c l m).den G → (backTo pos (starEach m env)).any (·.1) = false := by
  induction l with
  | nil => exact fun h => by rw [ckEs_nil h]; rfl
  | cons e l ih => exact fun {m} h => ckEs_cons (C := fun m => (backTo pos (starEach m env)).any (·.1) = false) h fun x xs h1 h2 => by rw [pl_star (hp h1)]; exact ih h2
theorem ckEk_cons {e : Nat × IE} {l : List (Nat × IE)} {m : List Keyword} {C : List Keyword → Prop} (h : (ckEk rE c (e :: l) m).den G) (k : ∀ x p xs, (rE c e.2 x).den G → (ckEk rE c l xs).den G → C (⟨some (nm e.1), x, p⟩ :: xs)) : C m :=
  bnE h fun q e1 h => bnE h fun s es h => un_of e1 ▸ (show C (q.1 :: q.2) from by
    obtain ⟨⟨a, x, p⟩, r⟩ := q
    cases es
    exact (isNm_of h.1 : nm e.1 = s) ▸ k x p r h.2.1 h.2.2)
inductive KwN (l : List (Nat × IE)) (m : List Keyword) (env : Env) (pos : Pos) : Prop | mk (all : (backToKw pos (keywordEach m env)).all (·.1.isSome) = true) (ns : (backToKw pos (keywordEach m env)).filterMap (·.1) = l.map fun e => nm e.1) (any : (backToKw pos (keywordEach m env)).any (·.1.isNone) = false)
theorem kwNames {l : List (Nat × IE)} : ∀ {m : List Keyword}, (ckEk rE c l m).den G → KwN l m env pos := by
  induction l with
  | nil => exact fun h => by cases emp_of h.1; exact ⟨rfl, rfl, rfl⟩
  | cons e l ih => exact fun {m} h => ckEk_cons (C := fun m => KwN (e :: l) m env pos) h fun x p xs h1 h2 => have i := ih h2; ⟨i.1, congrArg (nm e.1 :: ·) i.2, i.3⟩
theorem evalArgs_pos (hp : ∀ {e x}, (rE c e x).den G → plB x = true) {fv : Value} {l : List IE} {es : List Expr} (h' : (ckEs rE c l es).den G) {Q : Args → Shared → Prop} (h : wpAny M A (spliced (backTo pos (starEach es env))) (fun vs s' => Q ⟨vs, []⟩ s') E s) : wpAny M A (evalArgs fv true (backTo pos (starEach es env)) []) Q E s := by
  cases l with
  | nil =>
    rw [ckEs_nil h'] at h ⊢
    unfold evalArgs
    refine wpAny_bind (m := spliced []) (wpAny_mono h (fun vs s' h' => ?_) fun _ _ x => x)
    exact wpAny_holding (wpAny_bind (wpAny_pure (wpAny_bind (wpAny_pure (wpAny_pure h')))))
  | cons e l => exact ckEs_cons (C := fun es => wpAny M A (spliced (backTo pos (starEach es env))) (fun vs s' => Q ⟨vs, []⟩ s') E s → wpAny M A (evalArgs fv true (backTo pos (starEach es env)) []) Q E s) h' (fun x xs h1 _ h => by rw [pl_star (hp h1)] at h ⊢; exact evalArgs_plain h) h
theorem evalArgs_kw (hp : ∀ {e x}, (rE c e x).den G → plB x = true) {fv : Value} {l : List IE} {es : List Expr} {kl : List (Nat × IE)} {ks : List Keyword} (h1 : (ckEs rE c l es).den G) (N : KwN kl ks env pos) {Q : Args → Shared → Prop}
    (h : wpAny M A (spliced (backTo pos (starEach es env))) (fun vs s' => wpAny M A (evalAll ((backToKw pos (keywordEach ks env)).map (·.2))) (fun ws s₂ => Q ⟨vs, (kl.map fun e => nm e.1).zip ws⟩ s₂) E s') E s) : wpAny M A (evalArgs fv true (backTo pos (starEach es env)) (backToKw pos (keywordEach ks env))) Q E s := by
  unfold evalArgs
  cases l with
  | nil =>
    rw [ckEs_nil h1] at h ⊢
    refine wpAny_bind (m := spliced []) (wpAny_mono h (fun vs s' h' => wpAny_holding ?_) fun _ _ x => x)
    dsimp only
    rw [if_pos N.1, N.2]
    exact wpAny_bind (wpAny_mono h' (fun ws s₂ h₂ => wpAny_bind (wpAny_pure (wpAny_pure h₂))) fun _ _ x => x)
  | cons e l =>
    obtain ⟨x, xs, ex, hx⟩ := ckEs_cons (C := fun es => ∃ x xs, es = x :: xs ∧ plB x = true) h1 fun x xs h1 _ => ⟨x, xs, rfl, hp h1⟩
    cases ex
    rw [pl_star hx] at h ⊢
    refine wpAny_bind (m := spliced ((false, _) :: _)) (wpAny_mono h (fun vs s' h' => wpAny_holding ?_) fun _ _ x => x)
    dsimp only
    rw [if_pos N.1, N.2]
    exact wpAny_bind (wpAny_mono h' (fun ws s₂ h₂ => wpAny_bind (wpAny_pure (wpAny_pure h₂))) fun _ _ x => x)
noncomputable def KsT (X : Cx) (fr : SFr) (σ : SS) (pos : Pos) (m : List Keyword) (l : List (Nat × IE)) (ks : List (Nat × SV)) (σ' : SS) : Prop := T3 X fr σ (evalAll ((backToKw pos (keywordEach m X.env)).map (·.2))) fr σ' (.val fun ρ ys => KWs X.G.V σ'.objs.length ks ρ ((l.map fun e => nm e.1).zip ys))
theorem evks_ok (H : EvR X I N c) {l : List (Nat × IE)} : ∀ {m : List Keyword} {σ : SS}, (ckEk (ckE X.P N) c l m).den X.G → Ok2 (evks I X.hd fr l σ) fun ks σ' => KsT X fr σ pos m l ks σ' := by
  induction l with
  | nil =>
    exact fun {m σ} h => by
      cases emp_of h.1
      exact .ret ⟨.refl _, trivial, fun w Q E _ S k => wpAny_pure (k w (.refl ..) S [] no_KWs)⟩
  | cons e l ih =>
    exact fun {m σ} h => ckEk_cons (C := fun m => Ok2 (okE (I.ev e.2 X.hd fr σ) fun v σ => b2 (evks I X.hd fr l σ) fun vs σ => some ((e.1, v) :: vs, σ)) fun ks σ' => KsT X fr σ pos m (e :: l) ks σ') h fun x p xs h1 h2 =>
      .okE (H e.2 x fr σ h1) fun v σ1 A => .b2 (ih h2) fun vs σ2 B => .ret ⟨A.1.trans B.1, trivial, fun w Q E _ S k => wpAny_bind (wpAny_bind (A.3 w _ _ trivial S fun w1 x1 S1 y d => wpAny_bind (wpAny_standAt (wpAny_pure (wpAny_bind (wpAny_holding
        (B.3 w1 _ _ trivial S1 fun w2 x2 S2 ys ds => wpAny_pure (k w2 (x1.trans A.1.1 x2) S2 (y :: ys) ⟨.cons ⟨rfl, (d.ext x2.1 B.1.1).1⟩ ds.1, fun z hz => (List.mem_cons.mp hz).elim (fun q => by cases q; exact SV.lt_le B.1.1 d.2) (ds.2 z)⟩))))))))⟩
theorem pl_of {n : Nat} {e : IE} {x : Expr} (h : (ckE P n c e x).den G) : plB x = true := (ck_pl h).1
theorem one_of' {w : Wd} {i n : Nat} (h : i < n) : DVs V n [.ref i] w.ρ [.ref (w.ρ i)] := ⟨.cons rfl .nil, fun _ q => List.mem_singleton.mp q ▸ h⟩
theorem ev_call {x : PySem.Str} {xp p : Pos} {l : List IE} {es : List Expr} {fv : SV} {vs : List SV} {r : Rs} (ms : (ckEs (ckE X.P N) c l es).den X.G) (H : HV X fr σ (eval (.Name x xp) X.env) fv σ₁) (Ha : HVs X fr σ₁ (spliced (backTo p (starEach es X.env))) vs σ₂) (C : CW X fr σ₂ fv vs [] r σ₃) : VT X fr σ (eval (.Call (.Name x xp) es [] p) X.env) r σ₃ :=
  ⟨(H.1.trans Ha.1).trans C.1, C.2, fun w Q E _ S k => wpAny_Call_ofName (H.3 w _ _ trivial S fun w1 x1 S1 y d1 => callWith_of (P := KpOK X.M y) (by rw [plain_each pl_of ms]; rfl) (fun _ x => x) (evalArgs_pos pl_of ms (Ha.3 w1 _ _ trivial S1 fun w2 x2 S2 ys d2 =>
    have d1 := d1.ext x2.1 Ha.1.1
    ⟨C.3 w2 y S2 d1, C.4 w2 y ys [] Q E S2 d1 d2 no_KWs fun w3 x3 => k w3 ((x1.trans H.1.1 x2).trans (H.1.trans Ha.1).1 x3)⟩)))⟩
noncomputable def GM (X : Cx) (fr : SFr) (σ : SS) (i a : Nat) (m : SV × List SV) : Prop := ∀ (w : Wd) pl (Q : Value × List Value → Shared → Prop) (E : Value → Shared → Prop), At X fr σ w → (∀ fx t, DV X.G.V σ.objs.length m.1 w.ρ fx.1 → DVs X.G.V σ.objs.length m.2 w.ρ fx.2 → Q fx { w.s with toks := t }) → wpAny X.M X.A (getMethod (.ref (w.ρ i)) (nm a) pl) Q E w.s
theorem gm_blt {i a : Nat} {so : SObj} (hi : σ.objs[i]? = some so) {b : String} (hb : Value.builtin b = bltV a) (H : ∀ (w : Wd) pl (Q : Value × List Value → Shared → Prop) (E : Value → Shared → Prop), At X fr σ w → Q (.builtin b, [.ref (w.ρ i)]) w.s → wpAny X.M X.A (getMethod (.ref (w.ρ i)) (nm a) pl) Q E w.s) : GM X fr σ i a (.blt a, [.ref i]) :=
  fun w pl Q E S k => H w pl Q E S (k (.builtin b, [.ref (w.ρ i)]) w.s.toks ⟨hb, trivial⟩ (one_of' (SS.at_lt hi)))
theorem gm_list {i a : Nat} {xs : List SV} {nme : String} {b : String} (hi : σ.objs[i]? = some (.list xs)) (hb : Value.builtin b = bltV a) (hn : nm a = PySem.Str.ofString nme) (H : ∀ {M : Model} {A : Around} {E : Value → Shared → Prop} {s : Shared} {l : Addr} {pl : Sem Bool} {Q : Value × List Value → Shared → Prop}, s.TypeIs (.ref l) "list" → (∀ a, Value.ref l = .ref a → ∃ o, s.heap.get? a = some o ∧ o.dict = none) → Q (.builtin b, [.ref l]) s → wpAny M A (getMethod (.ref l) (PySem.Str.ofString nme) pl) Q E s) : GM X fr σ i a (.blt a, [.ref i]) :=
  gm_blt hi hb fun w pl Q E S k => by
    rw [hn]
    exact S.at_ hi fun o e d => by cases d with | mk vs n r => exact H ⟨_, e, rfl⟩ (fun a q => by cases q; exact ⟨_, e, rfl⟩) k
theorem gm_get {i : Nat} {so : SObj} (hi : σ.objs[i]? = some so) (hs : ∀ w, At X fr σ w → ∀ {pl} {Q : Value × List Value → Shared → Prop} {E : Value → Shared → Prop}, Q (.builtin "dict.get", [.ref (w.ρ i)]) w.s → wpAny X.M X.A (getMethod (.ref (w.ρ i)) "get" pl) Q E w.s) : GM X fr σ i n_get (.blt n_get, [.ref i]) :=
  gm_blt hi (b := "dict.get") (by decide +kernel) fun w pl Q E S k => by
    rw [show nm n_get = "get" by decide +kernel]
    exact hs w S k
theorem mem_AN (S : At X fr σ w) {i : Nat} {so : SObj} {o : Obj} (hi : σ.objs[i]? = some so) (e : w.s.heap.get? (w.ρ i) = some o) : (w.ρ i, o) ∈ AN w.k X.L w.s.heap :=
  AN.mem.mpr ⟨e, fun q => (nomatch (S.1 i _ hi).2.symm.trans ((congrArg w.cl q).trans S.6)), notKept S hi⟩
theorem gm_ok {a i : Nat} {m : SV × List SV} (ha : a < nAttr) (M : Mt X.P σ i a m) : GM X fr σ i a m := by
  cases M with
  | fn C d l es g hi hd hl hn hc =>
    intro w pl Q E S k
    cases inst_of S hi hd with
    | mk des ep kvs I e p kk nd r lt =>
      have K := S.cls hl
      have A := (K.12 a ha).fn hc
      exact method_inst S.Fr_ (S.2.5.keeps S.17) I (by unfold plainGet; rw [K.1, K.2]; decide +kernel) A.1 A.2 ((getL_of p _).trans (congrArg some ((valueAt_of r a).none hn))) (k (.ref g, [.ref (w.ρ i)]) w.s.toks ⟨rfl, trivial⟩ (one_of' (SS.at_lt hi)))
  | own C d l es f hi hd hl hv hc =>
    intro w pl Q E S k
    cases inst_of S hi hd with
    | mk des ep kvs I e p kk nd r lt =>
      have K := S.cls hl
      exact method_usual S.K I K.1 K.2 ((K.12 a ha).no hc) rfl (ga_own (X := X) ha hi hd hl hv (.inl hc) w _ false _ E S rfl fun y t dv => k (y, []) t dv ⟨.nil, nil_all⟩)
  | lst xs hi h =>
    rcases Bool.or_eq_true_iff.mp h with q | h
    · cases Nat.eq_of_beq_eq_true q
      exact gm_list (b := "list.append") (nme := "append") hi (by decide +kernel) (by decide +kernel) fun t n k => getMethod_builtin t PySem.F.plainAttrs_list PySem.F.slot_list_append PySem.F.type_list_append n k
    · rcases Bool.or_eq_true_iff.mp h with q | h
      · cases Nat.eq_of_beq_eq_true q
        exact gm_list (b := "list.clear") (nme := "clear") hi (by decide +kernel) (by decide +kernel) fun t n k => getMethod_builtin t PySem.F.plainAttrs_list PySem.F.slot_list_clear PySem.F.type_list_clear n k
      · rcases Bool.or_eq_true_iff.mp h with q | q
        · cases Nat.eq_of_beq_eq_true q
          exact gm_list (b := "list.extend") (nme := "extend") hi (by decide +kernel) (by decide +kernel) fun t n k => getMethod_builtin t PySem.F.plainAttrs_list PySem.F.slot_list_extend PySem.F.type_list_extend n k
        · cases Nat.eq_of_beq_eq_true q
          exact gm_list (b := "list.sort") (nme := "sort") hi (by decide +kernel) (by decide +kernel) fun t n k => getMethod_builtin t PySem.F.plainAttrs_list PySem.F.slot_list_sort PySem.F.type_list_sort n k
  | dct es hi h =>
    cases Nat.eq_of_beq_eq_true h
    exact gm_get hi fun w S {pl Q E} k => S.at_ hi fun o e d => by
      cases d with | mk kvs D r => cases D with | mk des ep kk p nd => exact kdg_method (knd := PySem.strKind X.G.prog X.G.w) AN.news (mem_AN S hi e) ⟨des.toArray, ep, ⟨rfl, rfl, rfl⟩, rfl, kk, p, nd⟩ k
  | adct j hi h =>
    cases Nat.eq_of_beq_eq_true h
    exact gm_get hi fun w S {pl Q E} k => S.at_ hi fun o e d => by
      cases d with | mk kvs D r => cases D with | mk des ep kk p nd => exact kdg_method (knd := PySem.intKind X.G.prog X.G.w) AN.news (mem_AN S hi e) ⟨des.toArray, ep, ⟨rfl, rfl, rfl⟩, rfl, kk, p, nd⟩ k
theorem form_ok {l : List IE} {es : List Expr} {kl : List (Nat × IE)} {ks : List Keyword} (h1 : (backTo pos (starEach es env)).any (·.1) = false) (N : KwN kl ks env pos) (hn : es.length + ks.length < 29) : methodCallForm (es.length + ks.length) (backTo pos (starEach es env)) (backToKw pos (keywordEach ks env)) = true := by
  have h3 : (backTo pos (starEach es env)).all (fun x => !x.1) = true := List.all_eq_true.mpr fun x hx => by
    have := List.any_eq_false.mp h1 x hx
    cases q : x.1 with
    | false => rfl
    | true => exact absurd q this
  unfold methodCallForm
  rw [h3, N.1]
  refine decide_eq_true (Nat.lt_of_le_of_lt (Nat.add_le_add_left (m := 1) ?_ _) (Nat.succ_lt_succ hn))
  split <;> decide
theorem ev_mcall {eo : Expr} {a i : Nat} {ap p : Pos} {l : List IE} {es : List Expr} {kl : List (Nat × IE)} {ks : List Keyword} {m : SV × List SV} {vs : List SV} {kvs : List (Nat × SV)} {r : Rs} (mo : plB eo = true) (ms : (ckEs (ckE X.P N) c l es).den X.G) (mk : (ckEk (ckE X.P N) c kl ks).den X.G) (hn : es.length + ks.length < 29) (hp : ap.endLine = p.line)
    (H : HV X fr σ (eval eo X.env) (.ref i) σ₁) (hg : GM X fr σ₁ i a m) (Ha : HVs X fr σ₁ (spliced (backTo p (starEach es X.env))) vs σ₂) (Hk : KsT X fr σ₂ p ks kl kvs σ₃)
    (C : CW X fr σ₃ m.1 (m.2 ++ vs) kvs r σ₄) : VT X fr σ (eval (.Call (.Attribute eo (nm a) ap) es ks p) X.env) r σ₄ := by
  have pe := plain_each (pos := p) (env := X.env) pl_of ms
  have N := kwNames (pos := p) (env := X.env) mk
  refine ⟨((H.1.trans Ha.1).trans Hk.1).trans C.1, C.2, fun w Q E _ S k => ?_⟩
  rw [arm_eval_Call, pl_base mo]
  refine wpAny_bind (H.3 w _ _ trivial S fun w1 x1 S1 y d => wpAny_bind (wpAny_standAt ?_))
  cases d.1
  unfold methodCall
  rw [form_ok (l := l) pe N hn]
  refine wpAny_bind (wpAny_holding ?_)
  unfold calleeOf
  rw [if_pos rfl]
  refine hg w1 _ _ E S1 fun fx t dfv df => ?_
  obtain ⟨fv, first⟩ := fx
  unfold methodCallPos
  rw [if_pos (by rw [hp, beq_self_eq_true]; rfl)]
  refine wpAny_bind (wpAny_pure (callWith_of (P := KpOK X.M fv) (by rw [pe, Bool.false_or]; exact N.3) (fun _ x => x) (evalArgs_kw pl_of ms N (Ha.3 (w1.hp w1.s.heap t) _ _ trivial (toks S1 t) fun w2 x2 S2 ys d2 => Hk.3 w2 _ _ trivial S2 fun w3 x3 S3 zs d3 => ?_))))
  have dfv := (DV.ext (ρ' := w2.ρ) dfv x2.1 Ha.1.1).ext x3.1 Hk.1.1
  have df := (DVs.ext (ρ' := w2.ρ) df x2.1 Ha.1.1).ext x3.1 Hk.1.1
  have d2 := d2.ext x3.1 Hk.1.1
  exact ⟨C.3 w3 fv S3 dfv, C.4 w3 fv (first ++ ys) _ Q E S3 dfv ⟨df.1.append d2.1, fun v hv => (List.mem_append.mp hv).elim (df.2 v) (d2.2 v)⟩ d3 fun w4 x4 => k w4 (((x1.trans H.1.1 (Ex.hp.trans (Nat.le_refl _) x2)).trans (H.1.trans Ha.1).1 x3).trans ((H.1.trans Ha.1).trans Hk.1).1 x4)⟩
end
section
variable {v u c : SV} {args : List SV} {r : SV} {i j l d : Nat} {b : Nat}
theorem CW.blt {y : Value} (hb : bltV b = y) (hy : ∀ a, y ≠ .ref a) (le : σ.Le σ') (h : ∀ (w : Wd) ys (Q : Value → Shared → Prop) (E : Value → Shared → Prop), At X fr σ w → DVs X.G.V σ.objs.length args w.ρ ys → (∀ w' y, Ex X.outer σ.objs.length w w' → At X fr σ' w' → DV X.G.V σ'.objs.length v w'.ρ y → Q y w'.s) → wpAny X.M X.A (PySem.call y ys) Q E w.s) : CW X fr σ (.blt b) args [] (.ok v) σ' :=
  ⟨le, trivial, fun w y S d => by cases (d.1.trans hb); exact kp_plain hy, fun w y ys ws Q E S dy da dk k => by
    cases (dy.1.trans hb)
    cases dk.1
    exact h w ys Q E S da fun w' y x S' d => k w' x S' y d⟩
theorem CW.bltT {y : Value} (hb : bltV b = y) (hy : ∀ a, y ≠ .ref a) (h : ∀ (w : Wd) ys (Q : Value → Shared → Prop) (E : Value → Shared → Prop), At X fr σ w → DVs X.G.V σ.objs.length args w.ρ ys → (∀ y t, DV X.G.V σ.objs.length v w.ρ y → Q y { w.s with toks := t }) → wpAny X.M X.A (PySem.call y ys) Q E w.s) : CW X fr σ (.blt b) args [] (.ok v) σ :=
  .blt hb hy (.refl _) fun w ys Q E S da k => h w ys Q E S da fun y t d => k (w.hp w.s.heap t) y .hp (toks S t) d
theorem nr_b {b : String} (a : Addr) : Value.builtin b ≠ .ref a := (nomatch ·)
theorem nr_t {b : String} (a : Addr) : Value.type b ≠ .ref a := (nomatch ·)
theorem arg1 {n : Nat} {ys : List Value} {C : List Value → Prop} (da : DVs V n [v] ρ ys) (k : ∀ y, DV V n v ρ y → C [y]) : C ys := by
  have d2 := da.2
  cases da.1 with | cons h1 h2 => cases h2 with | nil => exact k _ ⟨h1, d2 _ (.head _)⟩
theorem arg2 {n : Nat} {ys : List Value} {C : List Value → Prop} (da : DVs V n [v, u] ρ ys) (k : ∀ y z, DV V n v ρ y → DV V n u ρ z → C [y, z]) : C ys := by
  have d2 := da.2
  cases da.1 with | cons h1 h2 => exact arg1 (C := fun l => C (_ :: l)) ⟨h2, fun z h => d2 z (.tail _ h)⟩ fun z dz => k _ z ⟨h1, d2 _ (.head _)⟩ dz
theorem arg3 {n : Nat} {ys : List Value} {C : List Value → Prop} (da : DVs V n [v, u, c] ρ ys) (k : ∀ y z t, DV V n v ρ y → DV V n u ρ z → DV V n c ρ t → C [y, z, t]) : C ys := by
  have d2 := da.2
  cases da.1 with | cons h1 h2 => exact arg2 (C := fun l => C (_ :: l)) ⟨h2, fun z h => d2 z (.tail _ h)⟩ fun z t dz dt => k _ z t ⟨h1, d2 _ (.head _)⟩ dz dt
theorem rowItos_mem {rs : List Row} : Ok (rowItos v rs) fun c => .itos v c ∈ rs := .row fun r hr => by
  cases r with
  | itos a' c => exact .wh fun h => .ret (SV.eqb_of h ▸ hr)
  | _ => exact .nil
theorem rowDlen_mem {rs : List Row} : Ok (rowDlen d rs) fun c => .dlen d c ∈ rs := .row fun r hr => by
  cases r with
  | dlen a' c => exact .wh fun h => .ret (Nat.eq_of_beq_eq_true h ▸ hr)
  | _ => exact .nil
theorem rowLlen_mem {rs : List Row} : Ok (rowLlen d rs) fun c => .llen d c ∈ rs := .row fun r hr => by
  cases r with
  | llen a' c => exact .wh fun h => .ret (Nat.eq_of_beq_eq_true h ▸ hr)
  | _ => exact .nil
theorem rowDget_mem {rs : List Row} : Ok (rowDget d v u rs) fun c => .dget d v u c ∈ rs := .row fun r hr => by
  cases r with
  | dget d' k' v' c => exact .wh fun h => .ret (Nat.eq_of_beq_eq_true (an_bool h).1 ▸ SV.eqb_of (an_bool (an_bool h).2).1 ▸ SV.eqb_of (an_bool (an_bool h).2).2 ▸ hr)
  | _ => exact .nil
theorem bList_ok : Ok2 (bList σ args) fun r σ' => CW X fr σ (.blt n_list) args [] r σ' := .on1 fun v ha => .onR fun l hv => .onL fun xs hl => .wh fun hn => .ret (by
  cases ha; cases hv
  refine .blt (y := .type "list") (by decide +kernel) nr_t .new fun w ys Q E S da k => arg1 (C := fun ys => wpAny X.M X.A (PySem.call (.type "list") ys) Q E w.s) da fun y d => ?_
  cases d.1
  refine S.at_ hl fun o e D => ?_
  cases D with
  | mk vs n r => exact call_list_seq (w.ρ l) (.inl rfl) e rfl rfl (fun h' c' hk hnew => k _ _ .al (new (t := w.s.toks) S hk none_size hnew (.mk vs c' r) trivial (S.ltO hl)) ⟨congrArg Value.ref grow_eq.symm, Nat.lt_of_lt_of_eq (Nat.lt_succ_self _) SS.len_new.symm⟩) (by
      rw [List.size_toArray, ← r.length]; exact small_len hn))
theorem bLen_ok : Ok2 (bLen σ args) fun r σ' => CW X fr σ (.blt n_len) args [] r σ' := .on1 fun v ha => .onR fun l hv => .on fun so hl => by
  cases ha; cases hv
  have go : ∀ {c : SV}, (∀ (w : Wd) (Q : Value → Shared → Prop) (E : Value → Shared → Prop), At X fr σ w → (∀ y t, DV X.G.V σ.objs.length c w.ρ y → Q y { w.s with toks := t }) → wpAny X.M X.A (PySem.call (.builtin "len") [.ref (w.ρ l)]) Q E w.s) → CW X fr σ (.blt n_len) [.ref l] [] (.ok c) σ := fun h =>
    .bltT (y := .builtin "len") (by decide +kernel) nr_b fun w ys Q E S da k => arg1 (C := fun ys => wpAny X.M X.A (PySem.call (.builtin "len") ys) Q E w.s) da fun y d => by cases d.1; exact h w Q E S k
  cases so with
  | list xs => exact .wh fun hn => .ret (go fun w Q E S k => by
      cases S.list hl with
      | mk vs m e L r =>
        have hs : (List.toArray vs).size = xs.length := List.size_toArray.trans r.1.length.symm
        exact call_len_list L (hs ▸ lt63 (Nat.le_of_ble_eq_true hn)) (hs ▸ k _ _ ⟨⟨_, rfl⟩, trivial⟩))
  | dict es => exact .wh fun hn => .ret (go fun w Q E S k => S.dict hl fun kvs D r => call_len_dict (knd := PySem.strKind X.G.prog X.G.w) (S.notSys hl) D (r.length ▸ lt63 (Nat.le_trans (Nat.le_of_ble_eq_true hn) (by decide))) (r.length ▸ k _ _ ⟨⟨_, rfl⟩, trivial⟩))
  | adict d => exact .then (x := rowDlen d σ.rows) rowDlen_mem fun c hr => .ret (go fun w Q E S k => S.at_ hl fun o e D => by
      cases D with
      | mk kvs D r ne le => cases D with
        | mk des ep kk p nd => exact call_len_dict (knd := PySem.intKind X.G.prog X.G.w) (S.notSys hl) ⟨_, des.toArray, ep, e, ⟨rfl, rfl, rfl⟩, rfl, kk, p, nd⟩ (lt63 (Nat.le_trans le (by decide))) (r.length ▸ k _ _ (ival_of (S.row hr).1 _)))
  | alist d => exact .then (x := rowLlen d σ.rows) rowLlen_mem fun c hr => .ret (go fun w Q E S k => S.at_ hl fun o e D => by
      obtain ⟨m, rfl⟩ := D
      exact call_len_list ⟨_, e, rfl, m, rfl⟩ (by rw [List.size_toArray]; exact lt63 (S.pk.6 d)) (by rw [List.size_toArray]; exact k _ _ (ival_of (S.row hr).1 _)))
  | _ => exact .nil
theorem bStr_ok : Ok2 (bStr σ args) fun r σ' => CW X fr σ (.blt n_str) args [] r σ' := .on1 fun v ha => .then (x := rowItos v σ.rows) rowItos_mem fun c hr => .ret (by
  cases ha
  refine .bltT (y := .type "str") (by decide +kernel) nr_t fun w ys Q E S da k => arg1 (C := fun ys => wpAny X.M X.A (PySem.call (.type "str") ys) Q E w.s) da fun y d => ?_
  cases (S.row hr).1 with
  | mk x hx hc hlog =>
    obtain ⟨t, rfl⟩ := ival_den hx d.1
    exact P.str_of_int hlog (k _ _ (sval_of hc _)))
theorem bInt_ok : Ok2 (bInt σ args) fun r σ' => CW X fr σ (.blt n_int) args [] r σ' := .on1 fun v ha => by
  cases ha
  cases v with
  | bool b =>
    refine .ret (.bltT (y := .type "int") (by decide +kernel) nr_t fun w ys Q E S da k => arg1 (C := fun ys => wpAny X.M X.A (PySem.call (.type "int") ys) Q E w.s) da fun y d => ?_)
    cases d.1
    exact call_int_bool (by cases b <;> exact k _ _ ⟨⟨_, rfl⟩, trivial⟩)
  | _ => exact .nil
theorem bRange_ok : Ok2 (bRange σ args) fun r σ' => CW X fr σ (.blt n_range) args [] r σ' := .on1 fun v ha => by
  cases ha
  cases v with
  | int x =>
    refine .wh fun h => .ret (.blt (y := .type "range") (by decide +kernel) nr_t .new fun w ys Q E S da k => arg1 (C := fun ys => wpAny X.M X.A (PySem.call (.type "range") ys) Q E w.s) da fun y d => ?_)
    obtain ⟨t, rfl⟩ := d.1
    exact call_range_1 (k _ _ .al (new (t := w.s.toks + 1 + 1) S (fun b o e => Heap.get?_push_of_some _ e) none_size (IsRange.new _ _ _ _ _ _ _) (.mk ⟨by decide, by decide, of_decide_eq_true (an_bool h).1, of_decide_eq_true (an_bool h).2⟩ _ _ _) trivial trivial) ⟨congrArg Value.ref grow_eq.symm, Nat.lt_of_lt_of_eq (Nat.lt_succ_self _) SS.len_new.symm⟩)
  | _ => exact .nil
theorem soft_list {o : Obj} {xs : List SV} (D : LD V ρ xs o) : Soft o := by
  cases D with | mk vs n r => exact ⟨fun xs n q => ty_lt (congrArg Obj.cls q), fun vs q t e => (by cases e)⟩
theorem setL {xs zs : List SV} {vs vs' : List Value} {h' : Heap} {t m n : Nat} (S : At X fr σ w) (hi : σ.objs[i]? = some (.list xs)) (e : w.s.heap.get? (w.ρ i) = some (listOf (List.toArray vs) n)) (hs : Heap.SameBut (w.ρ i) w.s.heap h') (e' : h'.get? (w.ρ i) = some (listOf (List.toArray vs') m)) (r : DVs X.G.V σ.objs.length zs w.ρ vs') : At X fr (σ.set i (.list zs)) (w.hp h' t) :=
  updS S hi hs (fun o q => S.at_ hi fun o2 q2 D => by cases Option.some.inj (q.symm.trans q2); exact soft_list D) (.mk _ e' (.mk vs' m r.1) trivial) r.2 (leN hi nL) (S.hdN hi nL)
theorem bAppend_ok : Ok2 (bAppend σ args) fun r σ' => CW X fr σ (.blt n_append) args [] r σ' := .on2 fun u v ha => .onR fun i hu => .onL fun xs hi => .wh fun hn => .ret (by
  cases ha; cases hu
  refine .blt (y := .builtin "list.append") (by decide +kernel) nr_b (leN hi nL) fun w ys Q E S da k => arg2 (C := fun ys => wpAny X.M X.A (PySem.call (.builtin "list.append") ys) Q E w.s) da fun y z d dz => ?_
  cases d.1
  cases S.list hi with
  | mk vs m e L r => exact wpAny_list_append_plain ⟨m, e⟩ (fun h' hP' hs => by
      obtain ⟨n, e'⟩ := hP'
      exact k _ _ .hp (setL (t := w.s.toks) (zs := xs ++ [v]) (vs' := vs ++ [z]) (m := n) S hi e hs (e'.trans (by rw [List.push_toArray])) ⟨r.1.append (.cons dz.1 .nil), fun v hv => (List.mem_append.mp hv).elim (r.2 v) fun hv => List.mem_singleton.mp hv ▸ dz.2⟩) ⟨rfl, trivial⟩) (by rw [List.size_toArray, ← r.1.length]; exact small_len hn))
theorem mapSeq_list (items : Array Value) (n : Nat) (g : Array Value → Array Value) : ∃ n', Obj.mapSeq g { cls := .type "list", data := .seq items n } = { cls := .type "list", data := .seq (g items) n' } := ⟨_, rfl⟩
theorem bClear_ok : Ok2 (bClear σ args) fun r σ' => CW X fr σ (.blt n_clear) args [] r σ' := .on1 fun u ha => .onR fun i hu => .onL fun xs hi => .wh fun hn => .ret (by
  cases ha; cases hu
  refine .blt (y := .builtin "list.clear") (by decide +kernel) nr_b (leN hi nL) fun w ys Q E S da k => arg1 (C := fun ys => wpAny X.M X.A (PySem.call (.builtin "list.clear") ys) Q E w.s) da fun y d => ?_
  cases d.1
  cases S.list hi with
  | mk vs m e L r =>
    refine wpAny_call_entry PySem.F.slot_list_clear ⟨_, e, rfl⟩ PySem.F.entry_list_clear ?_ (PySem.F.args_list_clear_1 _)
    show wpAny _ _ (Builtin.List.listItems (.ref (w.ρ i)) >>= fun old => Builtin.List.listUpdate (.ref (w.ρ i)) (fun _ => #[]) >>= fun _ => letGo old.toList.reverse >>= fun _ => ret .none) _ _ w.s
    refine wpAny_bind (wpAny_bind (wpAny_seqItems e rfl (wpAny_pure ?_)))
    obtain ⟨n', e'⟩ := mapSeq_list (List.toArray vs) m (fun _ => #[])
    exact wpAny_bind (wpAny_updateSeq e rfl (wpAny_bind (wpAny_letGo (wpAny_pure ⟨.none, rfl, k _ _ .hp (setL (t := w.s.toks) (zs := []) (vs' := []) (m := n') S hi e (Heap.SameBut.update ..) ((Heap.get?_update_self _ e (by show (Obj.mapSeq (fun _ => #[]) { cls := .type "list", data := .seq (List.toArray vs) m }).isFreed = false; rw [e']; rfl)).trans (congrArg some e')) ⟨.nil, nil_all⟩) ⟨rfl, trivial⟩⟩))) (by rw [List.size_toArray, ← r.1.length]; exact small_len hn)))
theorem bExtend_ok : Ok2 (bExtend σ args) fun r σ' => CW X fr σ (.blt n_extend) args [] r σ' := .on2 fun u v ha => .onR fun i hu => .onR fun j hv => .onL fun xs hi => .onL fun zs hj => .wh fun hn => .ret (by
  cases ha; cases hu; cases hv
  refine .blt (y := .builtin "list.extend") (by decide +kernel) nr_b (leN hi nL) fun w ys Q E S da k => arg2 (C := fun ys => wpAny X.M X.A (PySem.call (.builtin "list.extend") ys) Q E w.s) da fun y z d dz => ?_
  cases d.1
  cases dz.1
  cases S.list hi with
  | mk vs n1 e1 L1 r1 => cases S.list hj with
    | mk ws n2 e2 L2 r2 =>
      have hsz : (List.toArray vs).size + (List.toArray ws).size ≤ 1000 := by
        have hn := Nat.le_of_ble_eq_true (an_bool hn).1
        rw [List.length_append, r1.1.length, r2.1.length] at hn
        rw [List.size_toArray, List.size_toArray]; exact hn
      have h1000 := size_1000
      refine wpAny_call (codeAny_call_builtin PySem.F.slot_list_extend.plain PySem.F.entry_list_extend (PySem.F.slot_list_extend.check _ _ _ _ _ _ _ _ ⟨_, e1, rfl⟩ (PySem.F.args_list_extend_2 _ _) (AutoSeq1.list_extend_list_list_0 (w.ρ i) (List.toArray vs) n1 (w.ρ j) (List.toArray ws) n2 ?_ (by omega) (by omega) X.G.prog X.G.w X.A (fun r s' => match r with | .ok (.ret v) => Q v s' | .ok _ => False | .error e => E e s') w.s ⟨e1, e2, ?_⟩)))
      · simp only [Bool.and_eq_true, not_and]
        intro _
        unfold Builtin.List.listTooLong
        simp only [decide_eq_true_eq]; omega
      · obtain ⟨n', e'⟩ := mapSeq_list (List.toArray vs) n1 (fun x => x ++ List.toArray ws)
        exact k _ _ .hp (setL (t := w.s.toks) (zs := xs ++ zs) (vs' := vs ++ ws) (m := n') S hi e1 (Heap.SameBut.update ..) ((Heap.get?_update_self _ e1 (by show (Obj.mapSeq (fun x => x ++ List.toArray ws) { cls := .type "list", data := .seq (List.toArray vs) n1 }).isFreed = false; rw [e']; rfl)).trans ((congrArg some e').trans (by rw [List.append_toArray]))) ⟨r1.1.append r2.1, fun v hv => (List.mem_append.mp hv).elim (r1.2 v) (r2.2 v)⟩) ⟨rfl, trivial⟩)
theorem get_go {k dv c : SV} (h : ∀ (w : Wd) y z (Q : Value → Shared → Prop) (E : Value → Shared → Prop), At X fr σ w → DV X.G.V σ.objs.length k w.ρ y → DV X.G.V σ.objs.length dv w.ρ z → (∀ y t, DV X.G.V σ.objs.length c w.ρ y → Q y { w.s with toks := t }) → wpAny X.M X.A (PySem.call (.builtin "dict.get") [.ref (w.ρ i), y, z]) Q E w.s) : CW X fr σ (.blt n_get) [.ref i, k, dv] [] (.ok c) σ :=
  .bltT (y := .builtin "dict.get") (by decide +kernel) nr_b fun w ys Q E S da kk => arg3 (C := fun ys => wpAny X.M X.A (PySem.call (.builtin "dict.get") ys) Q E w.s) da fun y z t d dz dt => by cases d.1; exact h w z t Q E S dz dt kk
theorem valueAt_int {l : List (Int × PySem.Str)} {kvs : List (Int × Value)} (h : All2 IK l kvs) (x : Int) : match dGet l x with | some t => ∃ u, valueAt kvs x = some (.str t u) | none => valueAt kvs x = none := by
  induction h with
  | nil => rfl
  | @cons e kv l kvs h1 _ ih =>
    obtain ⟨u, h2⟩ := h1.2
    have a : dGet (e :: l) x = cond (decide (e.1 = x)) (some e.2) (dGet l x) := by
      unfold dGet
      rw [List.find?_cons]
      cases decide (e.1 = x) <;> rfl
    have b : valueAt (kv :: kvs) x = cond (decide (e.1 = x)) (some (.str e.2 u)) (valueAt kvs x) := by
      unfold valueAt
      rw [List.find?_cons, h1.1]
      cases decide (e.1 = x) with
      | true => exact congrArg some h2
      | false => rfl
    rw [a, b]
    cases decide (e.1 = x) with
    | true => exact ⟨u, rfl⟩
    | false => exact ih
theorem bGet_ok : Ok2 (bGet σ args) fun r σ' => CW X fr σ (.blt n_get) args [] r σ' := .on3 fun u k dv ha => .onR fun i hu => .on fun so hi => by
  cases ha; cases hu
  cases so with
  | dict es =>
    cases k with
    | str n =>
      refine .ret (get_go fun w y z Q E S dy dz kk => S.at_ hi fun o e D => ?_)
      obtain ⟨t, rfl⟩ := dy.1
      cases D with
      | mk kvs D r => cases D with
        | mk des ep kd p nd =>
          refine kdg_get2 (knd := PySem.strKind X.G.prog X.G.w) (k := nm n) AN.news (mem_AN S hi e) ⟨des.toArray, ep, ⟨rfl, rfl, rfl⟩, rfl, kd, p, nd⟩ (S.notSys hi) (decide_eq_true rfl) _ rfl ?_
          have q := valueAt_of r n
          cases h : lk es n with
          | some v => rw [h] at kk; exact q.some h fun z hz d => by rw [hz]; exact kk _ _ ⟨d, S.ltO hi _ (lk_mem h)⟩
          | none => rw [h] at kk; rw [q.none h]; exact kk _ _ dz
    | int x =>
      refine .wh fun he => .ret (get_go fun w y z Q E S dy dz kk => S.at_ hi fun o e D => ?_)
      cases emp_of he
      obtain ⟨t, rfl⟩ := dy.1
      cases D with
      | mk kvs D r => cases r; cases D with
        | mk des ep kd p nd => cases p with
          | nil => exact kdg_get2 (knd := PySem.intKind X.G.prog X.G.w) (kvs := []) (k := x) AN.news (mem_AN S hi e) ⟨#[], ep, ⟨rfl, rfl, rfl⟩, rfl, fun e he => absurd he (Array.not_mem_empty e), .nil, List.nodup_nil⟩ (S.notSys hi) (decide_eq_true rfl) _ rfl (kk _ _ dz)
    | _ => exact .nil
  | adict d =>
    refine .then (x := rowDget d k dv σ.rows) rowDget_mem fun c hr => .ret (get_go fun w y z Q E S dy dz kk => S.at_ hi fun o e D => ?_)
    have R := S.row hr
    cases R.1 with
    | mk x h1 h2 =>
      obtain ⟨t, rfl⟩ := ival_den h1 dy.1
      cases D with
      | mk kvs D r ne le => cases D with
        | mk des ep kd p nd =>
          refine kdg_get2 (knd := PySem.intKind X.G.prog X.G.w) (k := x) AN.news (mem_AN S hi e) ⟨des.toArray, ep, ⟨rfl, rfl, rfl⟩, rfl, kd, p, nd⟩ (S.notSys hi) (decide_eq_true rfl) _ rfl ?_
          have q := valueAt_int (r.mono fun _ _ h => h) x
          cases h : dGet (X.G.V.dic d) x with
          | some t =>
            rw [h] at q h2
            obtain ⟨u, hu⟩ := q
            rw [hu]
            exact kk _ _ (sval_of h2 u)
          | none =>
            rw [h] at q h2
            rw [q]
            obtain ⟨t', q1, q2⟩ := h2
            obtain ⟨u, rfl⟩ := sval_den q1 dz.1
            exact kk _ _ (sval_of q2 u)
  | _ => exact .nil
end
end
end Mine
namespace Mine
open PySem PySem.W PyProof.Rows PySem.Calls Builtin Builtin.ObjectAttr
section
variable {X : Cx} {I : In} {c : CK} {N : Nat} {fr fr' : SFr} {σ σ' σ₁ σ₂ σ₃ : SS} {w w' : Wd} {V : Val} {ρ : Nat → Addr} {G : Gl} {P : PT}
section
variable {s : Shared} {E : Value → Shared → Prop} {A : Around} {prog : Program} {wd : World}
theorem raiseAttr_ok {α : Type} {o : Value} {name : PySem.Str} {msg : PySem.Str} {Q : α → Shared → Prop} (hh : HdOK A s.heap)
    (h : ∀ h' tk e, (∀ b ob, s.heap.get? b = some ob → h'.get? b = some ob) → (∃ oe, h'.get? e = some oe ∧ oe.cls = .type "AttributeError") → E (.ref e) { s with heap := h', toks := tk }) (hm : msg.length ≤ sizeLine) :
    wpAny (model prog wd) A (raiseAttrError o name msg : Sem α) Q E s := by
  cases s with | mk hp g d tk os =>
  refine wpAny_bind (wpAny_mkStr (wpAny_bind (newExc_ok (by simp only [firstArgMember, attrError_no_first]; rfl) (by rw [sizeLine_eq]; exact Nat.le_of_ble_eq_true rfl) (Nat.le_of_ble_eq_true rfl) fun h' e x keep new he => ?_)) hm)
  have sub := sub_AttributeError
  rw [ownMembersOf_AttributeError] at he
  repeat (any_goals (first | assumption | wp_step))
  exact raise_ok hh (fun b ob q => (Heap.get?_update_other _ _ fun z => nomatch (z ▸ q).symm.trans new).trans (keep b ob q)) new (Heap.get?_update_self _ he rfl) rfl (Nat.le_of_ble_eq_true rfl) fun h₂ k t => h h₂ _ e k t
theorem kind_hasattr : builtinKind "hasattr" = none := by decide +kernel
theorem plain_hasattr : plainId "hasattr" = true := by decide +kernel
theorem entry_hasattr : entryFor table "hasattr" = some Builtin.«hasattr» := entryFor_of_tree (by kernel_rfl)
theorem args_hasattr (a b : Value) : argsOk "hasattr" ⟨[a, b], []⟩ := by unfold argsOk; kernel_rfl
theorem sub_AE : isSubtype (.type "AttributeError") (.type "AttributeError") = pure true := sub_AttributeError
theorem miss_by {K : Frag} {x C : Addr} {ox od : Obj} {name : PySem.Str} {t : Tok} {cd : ClassData} {Q : Option Value → Shared → Prop} (X : K.In s.heap) (I : InstAt s.heap x ox C (some od)) (hga : findIn K (.ref C) "__getattribute__" = some (some (.builtin "object.__getattribute__")))
    (hgh : findIn K (.ref C) "__getattr__" = some none) (hf : findObj K C (some od) name = some .missing) (hc : clsIn K C = some cd) (hcn : cd.name = "Transaction") (hnl : name.length ≤ 1000) (hh : HdOK A s.heap)
    (h : ∀ h' tk, (∀ b ob, s.heap.get? b = some ob → h'.get? b = some ob) → Q none { s with heap := h', toks := tk }) : wpAny (model prog wd) A (getAttrBy? (.ref x) (.str name t)) Q E s := by
  unfold getAttrBy?
  refine wpAny_bind (wpAny_attempt ?_)
  unfold getAttrBy
  refine wpAny_holding (wpAny_bind (I.type.here (wpAny_bind ((looks_findIn X hga).here ?_))))
  show wpAny _ _ (getAttrEveryday _ _ _) _ _ _
  unfold getAttrEveryday
  refine wpAny_bind (wpAny_onRaise (wpAny_runValue (codeAny_builtin F.plainObj_entry_getattr_hooked ?_)))
  refine wpAny_bind (wpAny_pure (wpAny_bind (I.type.here (wpAny_bind ((looks_find X I hf).here ?_)))))
  refine wpAny_bind ((looks_findIn X hgh).here ?_)
  show wpAny _ _ (noSuchAttribute (.ref x) name) _ _ _
  unfold noSuchAttribute typeNameOfCut shownTypeOf
  refine wpAny_bind (wpAny_bind (wpAny_bind (I.type.here ?_)))
  rw [if_neg (by simp)]
  refine wpAny_pure ?_
  unfold typeNameCut
  refine wpAny_bind ((looks_clsIn X hc).here ?_)
  rw [hcn, if_pos (by decide +kernel)]
  refine wpAny_pure ?_
  refine raiseAttr_ok (A := A.in1) hh (fun h' tk e hk ⟨oe, he, hcl⟩ => ?_) (attrMsg_fits (by decide +kernel) (by rw [sizeLine_eq]; omega))
  show wpAny _ A (noteIf false (.ref x) (.str name t) (.ref e)) _ _ _
  refine wpAny_pure ?_
  refine wpAny_bind (wpAny_isInstance (T := "AttributeError") (b := true) ⟨oe, he, hcl⟩ sub_AE ?_)
  exact wpAny_pure (h h' tk hk)
theorem args_getattr3 (a b c : Value) : argsOk "getattr" ⟨[a, b, c], []⟩ := by unfold argsOk; kernel_rfl
theorem bound_by {K : Frag} {x C g : Addr} {ox od : Obj} {name : PySem.Str} {t : Tok} {Q : Value → Shared → Prop} (X : K.In s.heap) (I : InstAt s.heap x ox C (some od)) (hga : findIn K (.ref C) "__getattribute__" = some (some (.builtin "object.__getattribute__")))
    (hgh : findIn K (.ref C) "__getattr__" = some none) (hf : findObj K C (some od) name = some (.bind (.builtin "function.__get__") (.ref g))) (hg : typeIn K (.ref g) = some (.type "function"))
    (h : Q (.ref s.heap.objs.size) { s with heap := s.heap.push (methodObj (.ref g) (.ref x)) }) : wpAny (model prog wd) A (getAttrBy (.ref x) (.str name t) false) Q E s := by
  unfold getAttrBy
  refine wpAny_holding (wpAny_bind (I.type.here (wpAny_bind ((looks_findIn X hga).here ?_))))
  show wpAny _ _ (getAttrEveryday _ _ _) _ _ _
  unfold getAttrEveryday
  refine wpAny_bind (wpAny_onRaise (wpAny_runValue (codeAny_builtin F.plainObj_entry_getattr_hooked ?_)))
  refine wpAny_bind (wpAny_pure (wpAny_bind (I.type.here (wpAny_bind ((looks_find X I hf).here ?_)))))
  refine wpAny_bind ((looks_findIn X hgh).here ?_)
  show wpAny _ _ (holding [.ref g] (PySem.call (.builtin "function.__get__") [.ref g, .ref x, .ref C]) >>= ret) _ _ _
  exact wpAny_bind (wpAny_holding (wpAny_call (fn_get X hg (wpAny_pure (handed_on rfl h)))))
end
section
variable {args : List SV} {kws : List (Nat × SV)} {l i : Nat}
theorem boolsOf_den {xs : List SV} : Ok (boolsOf xs) fun bs => ∀ vs, All2 (Den V ρ) xs vs → vs = bs.map Value.bool := by
  induction xs with
  | nil => exact .ret fun vs h => by cases h; rfl
  | cons x xs ih =>
    cases x with
    | bool b => exact .then (x := boolsOf xs) ih fun l H => .ret fun vs h => by cases h with | cons h1 h2 => rw [show _ = Value.bool b from h1, H _ h2]; rfl
    | _ => exact .nil
theorem IsList.keep {h h' : Heap} {a : Addr} {vs : Array Value} (x : h.IsList a vs) (hk : ∀ b o, h.get? b = some o → h'.get? b = some o) : h'.IsList a vs := PyProof.Rows.lstKept x hk
theorem any_loop {s : Shared} {A : Around} {M : Model} {E : Value → Shared → Prop} {prog : Program} {wd : World} {a L : Addr} {bs : List Bool} (hA : HdOK A s.heap) (hL : s.heap.IsList L (List.toArray (bs.map Value.bool))) (ha : s.heap.get? a = none) {R : Result → Shared → Prop} : ∀ (k i : Nat) (h : Heap), bs.length - i = k → (∀ b o, s.heap.get? b = some o → h.get? b = some o) → h.IsListIter a L i →
    (∀ h', (∀ b o, s.heap.get? b = some o → h'.get? b = some o) → (∃ o, h'.get? a = some o) → R (.ok (.ret (.bool ((bs.drop i).any id)))) { s with heap := h' }) → codeAny (model prog wd) A (.builtin "any.loop" ⟨[.ref a], []⟩) R { s with heap := h } := by
  have ne : ∀ {b o}, s.heap.get? b = some o → b ≠ a := fun e q => nomatch ha.symm.trans ((congrArg s.heap.get? q).symm.trans e)
  intro k
  induction k with
  | zero =>
    intro i h hk hh it hR
    refine codeAny_builtin F.entry_any_loop ?_
    rw [Around.under_plainId F.plain_any_loop _]
    have le : bs.length ≤ i := Nat.le_of_sub_eq_zero hk
    refine wpAny_bind (m := pyNext (.ref a)) (pyNext_list_end (A := A.in1) (s := { s with heap := h }) (HdOK.keeps hA hh) it (IsList.keep hL hh) (List.getElem?_toArray.trans (List.getElem?_eq_none (Nat.le_trans (Nat.le_of_eq (List.length_map Value.bool)) le))) fun h' hk' ht => ?_)
    refine wpAny_bind (wpAny_rule (wpAny_pure ?_))
    have g := hR h' (fun b o e => hk' b o (ne e) (hh b o e)) ht
    rw [List.drop_of_length_le le] at g
    exact g
  | succ k ih =>
    intro i h hk hh it hR
    have hlt : i < bs.length := Nat.lt_of_sub_eq_succ hk
    rw [List.drop_eq_getElem_cons hlt, List.any_cons] at hR
    refine codeAny_builtin F.entry_any_loop ?_
    rw [Around.under_plainId F.plain_any_loop _]
    refine wpAny_bind (m := pyNext (.ref a)) (wpAny_pyNext_list_item (s := { s with heap := h }) it (IsList.keep hL hh) (x := .bool bs[i]) (List.getElem?_toArray.trans (by rw [List.getElem?_map, List.getElem?_eq_getElem hlt]; rfl)) fun h' hit' hs => ?_)
    have hh' : ∀ b o, s.heap.get? b = some o → h'.get? b = some o := fun b o e => (hs.2 b (ne e)).trans (hh b o e)
    refine wpAny_bind (wpAny_holding (wpAny_pure (a := bs[i]) ?_))
    refine wpAny_bind (wpAny_letGo ?_)
    cases hb : bs[i] with
    | true =>
      refine wpAny_bind (wpAny_rule (wpAny_pure ?_))
      rw [hb] at hR
      obtain ⟨o, e, _⟩ := hit'
      exact hR h' hh' ⟨o, e⟩
    | false =>
      rw [hb] at hR
      exact wpAny_pure ⟨plainId_quiet F.plain_any_loop _, ih (i + 1) h' (by rw [Nat.sub_succ, hk]; rfl) hh' hit' hR⟩
theorem bAny_ok : Ok2 (bAny σ args) fun r σ' => CW X fr σ (.blt n_any) args [] r σ' := .on1 fun v ha => .onR fun l hv => .onL fun xs hl => .bind fun bs hb => .ret (by
  cases ha; cases hv
  refine .blt (y := .builtin "any") (by decide +kernel) nr_b .new fun w ys Q E S da k => arg1 (C := fun ys => wpAny X.M X.A (PySem.call (.builtin "any") ys) Q E w.s) da fun y d => ?_
  cases d.1
  cases S.list hl with
  | mk vs m e L r =>
    refine call_function_tree F.kind_any F.plain_any F.entry_any (F.args_any1 _) ?_
    refine wpAny_bind (m := pyIter (.ref (w.ρ l))) (wpAny_pyIter_list L (wpAny_pure ⟨plainId_quiet F.plain_any_loop _, ?_⟩))
    cases boolsOf_den bs hb vs r.1
    exact any_loop (M := X.M) (E := E) (A := X.A) S.hdok L none_size _ 0 _ rfl (fun b o e => Heap.get?_push_of_some _ e) ⟨_, Heap.get?_push_size _ rfl, rfl, rfl⟩ fun h' hh ⟨o, e⟩ => k _ _ .al (new (t := w.s.toks) (so := .dead) S hh none_size e trivial trivial trivial) ⟨rfl, trivial⟩)
theorem bHasattr_ok : Ok2 (bHasattr X.P σ args) fun r σ' => CW X fr σ (.blt n_hasattr) args [] r σ' := .on2 fun v u ha => .onR fun i hv => .onS fun a hu => .onI fun C d hi => .onD fun es hd => .bind fun l hl => .wh fun h => .ret (by
  cases ha; cases hv; cases hu
  have a1 := an_bool h
  have a2 := an_bool a1.2
  have a3 := an_bool a2.2
  cases Nat.eq_of_beq_eq_true a3.1
  cases Nat.eq_of_beq_eq_true a3.2
  refine .blt (y := .builtin "hasattr") (by decide +kernel) nr_b (.refl _) fun w ys Q E S da k => arg2 (C := fun ys => wpAny X.M X.A (PySem.call (.builtin "hasattr") ys) Q E w.s) da fun y z dy dz => ?_
  cases dy.1
  obtain ⟨t, rfl⟩ := dz.1
  cases inst_of S hi hd with
  | mk des ep kvs I e p kk nd r lt =>
    have K := S.cls hl
    obtain ⟨cd, hc, hcn, hmod⟩ := S.pk.7
    have lt_ : n__data < nAttr := by decide
    have hV : lookIn (nm n__data) (dictOf des ep) = some none := (lookIn_dict (nm n__data) des ep).trans ((getL_of p _).trans (congrArg some ((valueAt_of r n__data).none (non_of a1.1))))
    have hf : findObj X.G.K 556 (some (dictOf des ep)) (nm n__data) = some .missing := by
      obtain ⟨cd', hc', hd''⟩ := any_some K.3
      have ho : PySem.W.ownOf cd' (some (dictOf des ep)) (nm n__data) = some none := by
        unfold PySem.W.ownOf; rw [if_pos hd'']; exact hV
      have hcp := S.pk.3 n__data lt_
      unfold findObj
      rw [hc', Option.bind_some, (K.12 n__data lt_).no (non_of a2.1), Option.bind_some]
      simp only [ho, hcp, Option.bind_some, Bool.false_and, Bool.false_eq_true, if_false]
    refine call_function_tree kind_hasattr plain_hasattr entry_hasattr (args_hasattr _ _) ?_
    unfold Builtin.«hasattr»
    refine wpAny_bind (wpAny_of_eq (a := [.ref (w.ρ i), .str (nm n__data) t]) (by first | rfl | kernel_rfl) ?_)
    dsimp only
    refine wpAny_bind (wpAny_of_eq (a := ()) (by first | rfl | kernel_rfl) ?_)
    rw [if_neg (by exact Bool.false_ne_true)]
    refine wpAny_bind (I.type.here ?_)
    dsimp only
    refine wpAny_bind (wpAny_bind (m := pure (some (nm n__data))) (wpAny_pure ?_))
    dsimp only
    refine wpAny_bind (m := isInstance (.ref (w.ρ i)) (.type "module")) (wpAny_bind (I.type.here ((looks_mroIn S.K hmod).here (wpAny_pure ?_))))
    rw [if_neg (by decide)]
    refine wpAny_bind (miss_by (A := X.A.in1) S.K I K.1 K.2 hf hc hcn (by decide +kernel) S.hdok fun h' tk hk => ?_)
    rw [if_neg (by decide)]
    exact wpAny_pure (k (w.hp h' tk) _ .hp (keep S hk) ⟨rfl, trivial⟩))
theorem bGetattr_ok : Ok2 (bGetattr X.P σ args) fun r σ' => CW X fr σ (.blt n_getattr) args [] r σ' := .on3 fun v u dv ha => .onR fun i hv => .onS fun a hu => .onI fun C d hi => .onD fun es hd => .bind fun l hl => .wh fun h => .bind fun c hc => by
  cases c with
  | fn g =>
    refine .ret ?_
    cases ha; cases hv; cases hu
    have a1 := an_bool h
    cases Nat.eq_of_beq_eq_true a1.2
    refine .blt (y := .builtin "getattr") (by decide +kernel) nr_b .new fun w ys Q E S da k => arg3 (C := fun ys => wpAny X.M X.A (PySem.call (.builtin "getattr") ys) Q E w.s) da fun y z y3 dy dz dt => ?_
    cases dy.1
    obtain ⟨t, rfl⟩ := dz.1
    cases inst_of S hi hd with
    | mk des ep kvs I e p kk nd r lt =>
      have K := S.cls hl
      have lt_ : n_sortKey < nAttr := by decide
      have A := (K.12 n_sortKey lt_).fn hc
      have hV : lookIn (nm n_sortKey) (dictOf des ep) = some none := (lookIn_dict (nm n_sortKey) des ep).trans ((getL_of p _).trans (congrArg some ((valueAt_of r n_sortKey).none (non_of a1.1))))
      have hf : findObj X.G.K C (some (dictOf des ep)) (nm n_sortKey) = some (.bind (.builtin "function.__get__") (.ref g)) := findObj_fn K.3 A.1 A.3 A.4 (S.pk.3 n_sortKey lt_) hV
      refine call_function_tree KB.kind_getattr KB.plain_getattr KB.entry_getattr (args_getattr3 _ _ _) ?_
      unfold Builtin.«getattr»
      refine wpAny_bind (wpAny_of_eq (a := [.ref (w.ρ i), .str (nm n_sortKey) t, y3]) (by first | rfl | kernel_rfl) ?_)
      dsimp only
      refine wpAny_bind (wpAny_of_eq (a := ()) (by first | rfl | kernel_rfl) ?_)
      refine wpAny_bind (wpAny_of_eq (a := none) (by first | rfl | kernel_rfl) ?_)
      dsimp only
      refine wpAny_bind (wpAny_bind (m := pure (some (nm n_sortKey))) (wpAny_pure ?_))
      dsimp only
      refine wpAny_bind (m := isInstance (.ref (w.ρ i)) (.type "module")) (wpAny_bind (I.type.here ((looks_mroIn S.K K.9).here (wpAny_pure ?_))))
      rw [if_neg (by decide)]
      unfold getAttrBy?
      refine wpAny_bind (wpAny_bind (wpAny_attempt (bound_by S.K I K.1 K.2 hf A.5 (wpAny_pure (wpAny_pure ?_)))))
      exact k _ _ .al (new (t := w.s.toks) S (fun b o e => Heap.get?_push_of_some _ e) none_size (Heap.get?_push_size _ rfl) (.mk _ rfl) trivial (SS.at_lt hi)) ⟨congrArg Value.ref grow_eq.symm, Nat.lt_of_lt_of_eq (Nat.lt_succ_self _) SS.len_new.symm⟩
  | _ => exact .nil
theorem bBool_ok {k : Nat} (C : Cs k) (hy : Hy X) (hk : fu k + 2 ≤ X.n) : Ok2 (on1 args fun v => b2 (truth X.P (run X.P k) X.hd v σ) fun t σ => okv (.bool t) σ) fun r σ' => CW X fr σ (.blt n_bool) args [] r σ' := .on1 fun v ha => .b2 (ψ := fun t σ' => TR (X.ar X.A.in1.in1) fr σ v t σ') (truth_ok (X := X.ar X.A.in1.in1) C hy (Nat.le_sub_one_of_lt hk)) fun t σ' T => .ret (by
  cases ha
  refine .blt (y := .type "bool") (by decide +kernel) nr_t (T .none).1 fun w ys Q E S da k => arg1 (C := fun ys => wpAny X.M X.A (PySem.call (.type "bool") ys) Q E w.s) da fun z dz => ?_
  refine callType_codes (Q₁ := fun obj s₁ => s₁.TypeIs obj "bool" ∧ Q obj s₁) F.called_bool (F.typeCall_bool_1 z) F.entry_object_init ?_ fun obj s₁ hq => ⟨hq.1, F.args_object_init_2 obj z, ?_⟩
  · refine codeAny_call_builtin F.called_bool.plain F.entry_bool_new (wpAny_of_eq (F.newCall_bool_1 z) ?_)
    unfold Builtin.«bool.__new__»
    refine wpAny_bind (wpAny_pure (a := true) ?_)
    rw [if_neg (by decide)]
    refine wpAny_bind (wpAny_of_eq F.conv_sub_bool ?_)
    rw [if_neg (by decide)]
    refine wpAny_bind (wpAny_of_eq (a := [z]) (by first | rfl | kernel_rfl) ?_)
    dsimp only
    refine wpAny_bind ((T z).3 w _ _ dz (S.arnd (Nat.le_trans (Nat.le_add_left ..) hk) rfl (Nat.le_succ _) (Nat.add_le_add_left (show 2 ≤ 8 by decide) X.A.units) rfl) fun w' x' S' c hc => ?_)
    cases hc
    exact wpAny_pure ⟨rfl, k w' _ x' (At.back (A := X.A.in1.in1) S.2 rfl S') ⟨rfl, trivial⟩⟩
  · exact object_init_meets F.called_bool.init.lookup F.called_bool.made F.newNe_bool X.G.prog X.G.w X.A.in1 (wants (fun r s₂ => r = .none ∧ Q obj s₂) E) s₁ ⟨hq.1, rfl, hq.2⟩)
theorem callB0_ok {b : Nat} : Ok2 (callB0 X.P b σ args) fun r σ' => CW X fr σ (.blt b) args [] r σ' :=
  .cond (fun h => Nat.eq_of_beq_eq_true h ▸ bAny_ok) fun _ => .cond (fun h => Nat.eq_of_beq_eq_true h ▸ bList_ok) fun _ => .cond (fun h => Nat.eq_of_beq_eq_true h ▸ bLen_ok) fun _ => .cond (fun h => Nat.eq_of_beq_eq_true h ▸ bHasattr_ok) fun _ => .cond (fun h => Nat.eq_of_beq_eq_true h ▸ bGetattr_ok) fun _ => .cond (fun h => Nat.eq_of_beq_eq_true h ▸ bStr_ok) fun _ =>
  .cond (fun h => Nat.eq_of_beq_eq_true h ▸ bInt_ok) fun _ => .cond (fun h => Nat.eq_of_beq_eq_true h ▸ bRange_ok) fun _ => .cond (fun h => Nat.eq_of_beq_eq_true h ▸ bAppend_ok) fun _ => .cond (fun h => Nat.eq_of_beq_eq_true h ▸ bClear_ok) fun _ => .cond (fun h => Nat.eq_of_beq_eq_true h ▸ bExtend_ok) fun _ => .wh fun h => Nat.eq_of_beq_eq_true h ▸ bGet_ok
end
end
end Mine
namespace Mine
open PySem PySem.W PyProof.Rows PySem.Calls
section
variable {X : Cx} {I : In} {c : CK} {N : Nat} {fr fr' : SFr} {σ σ' σ₁ σ₂ σ₃ : SS} {w w' : Wd} {V : Val} {ρ : Nat → Addr} {G : Gl} {P : PT}
section
variable {s : Shared} {E : Value → Shared → Prop} {A : Around} {prog : Program} {wd : World}
theorem sort_rest {a q kS : Addr} {x : Value} {e1 : Nat} {Q : PySem.Fin → Shared → Prop} (hka : kS ≠ a)
    (h : wpAny (model prog wd) A (PySem.call (.ref q) [x]) (fun kv s' => s'.heap.get? a = some (listOf #[] e1) ∧ (∃ m, s'.heap.get? kS = some (listOf #[] m)) ∧
        ∀ h', (∀ b ob, b ≠ a → b ≠ kS → s'.heap.get? b = some ob → h'.get? b = some ob) → (∃ n', h'.get? a = some (listOf (List.toArray [x]) n')) → (∃ m', h'.get? kS = some (listOf #[] m')) → Q (.done (.ret .none)) { s' with heap := h' }) (fun _ _ => False) s) :
    wpAny (model prog wd) A (ksk_rest a (.ref q) false (List.toArray [x]) e1 (.ref kS)) Q E s := by
  unfold ksk_rest
  refine wpAny_bind (wpAny_rule ?_)
  rw [← Array.forIn_toList]
  show wpAny _ _ (forIn [x] PUnit.unit _ >>= _) _ _ _
  rw [List.forIn_cons]
  refine wpAny_bind (wpAny_bind (wpAny_bind (wpAny_attempt (wpAny_mono h (fun kv s' hq => ?_) fun _ _ z => z.elim))))
  obtain ⟨ha, ⟨m, hk⟩, hq⟩ := hq
  dsimp only
  refine wpAny_bind (listUpdate_at hk rfl ?_ (by simp) (by simp))
  refine wpAny_pure ?_
  dsimp only
  rw [List.forIn_nil]
  refine wpAny_pure ?_
  obtain ⟨m2, hk2⟩ : ∃ m2, (s'.heap.update kS (Obj.mapSeq fun y => y.push kv)).get? kS = some (listOf #[kv] m2) := ⟨_, get?_update_seq hk (fun y => y.push kv)⟩
  refine wpAny_bind (listItems_at hk2 rfl ?_)
  unfold ksk_end
  rw [if_neg (by decide)]
  refine wpAny_bind (wpAny_pure ?_)
  rw [if_pos (by simp)]
  dsimp only
  have hz : (if false = true then ((List.toArray [kv]).zip (List.toArray [x])).reverse else (List.toArray [kv]).zip (List.toArray [x])) = #[(kv, x)] := by simp
  rw [StateT.run_pure]
  refine wpAny_bind (wpAny_pure ?_)
  dsimp only
  rw [show (if false = true then ((#[kv] : Array Value).zip #[x]).reverse else (#[kv] : Array Value).zip #[x]) = #[(kv, x)] from hz]
  unfold ksk_tail
  have hm : Array.map (fun y : Value × Value => y.2) (arrOf (SortSt.mk' general' #[(kv, x)] #[] 7 none)) = #[x] := by
    rw [show arrOf (SortSt.mk' general' #[(kv, x)] #[] 7 none) = #[(kv, x)] from rfl]; simp
  simp only [Bool.false_eq_true, if_false, hm]
  refine wpAny_bind (listUpdate_at hk2 rfl ?_ (by have := size_1000; simp; omega) (by simp))
  refine wpAny_bind (wpAny_letGo ?_)
  have ha2 : ((s'.heap.update kS (Obj.mapSeq fun y => y.push kv)).update kS (Obj.mapSeq fun _ => #[])).get? a = some (listOf #[] e1) := by
    rw [Heap.get?_update_other _ _ hka, Heap.get?_update_other _ _ hka]; exact ha
  refine wpAny_bind (seqEpoch_at ha2 rfl ?_)
  refine wpAny_bind (listUpdate_at (f := fun _ => #[x]) ha2 rfl ?_ (by simp) (by show 1 ≤ _; omega))
  show wpAny _ _ (if (e1 != e1) = true then _ else _) _ _ _
  rw [if_neg (by simp)]
  refine wpAny_pure (hq _ (fun b ob hba hbk e => ?_) ?_ ?_)
  · rw [Heap.get?_update_other _ _ (Ne.symm hba), Heap.get?_update_other _ _ (Ne.symm hbk), Heap.get?_update_other _ _ (Ne.symm hbk)]; exact e
  · exact ⟨_, get?_update_seq ha2 (fun _ => #[x])⟩
  · rw [Heap.get?_update_other _ _ (Ne.symm hka)]
    exact ⟨_, get?_update_seq hk2 (fun _ => #[])⟩
theorem sort_one {a q : Addr} {x : Value} {k0 : Nat} {Q : PySem.Fin → Shared → Prop} (ho : s.heap.get? a = some (listOf (List.toArray [x]) k0))
    (h : ∀ e1 h3, (∀ b o, b ≠ a → s.heap.get? b = some o → h3.get? b = some o) → h3.get? a = some (listOf #[] e1) → s.heap.get? (s.heap.objs.size + 1) = none → h3.get? (s.heap.objs.size + 1) = some (listOf #[] 0) →
      wpAny (model prog wd) A (PySem.call (.ref q) [x]) (fun kv s' => s'.heap.get? a = some (listOf #[] e1) ∧ (∃ m, s'.heap.get? (s.heap.objs.size + 1) = some (listOf #[] m)) ∧
        ∀ h', (∀ b ob, b ≠ a → b ≠ s.heap.objs.size + 1 → s'.heap.get? b = some ob → h'.get? b = some ob) → (∃ n', h'.get? a = some (listOf (List.toArray [x]) n')) → (∃ m', h'.get? (s.heap.objs.size + 1) = some (listOf #[] m')) → Q (.done (.ret .none)) { s' with heap := h' }) (fun _ _ => False) { s with heap := h3 }) :
    wpAny (model prog wd) A (ksk_tree a (.ref q) false) Q E s := by
  unfold ksk_tree
  refine wpAny_bind (listItems_at ho rfl ?_)
  refine wpAny_bind (listUpdate_at ho rfl ?_ (by have := size_1000; rw [List.size_toArray]; simp; omega) (by simp))
  have ha : a < s.heap.objs.size := Heap.lt_size ho
  obtain ⟨e1, ho1⟩ : ∃ e1, (s.heap.update a (Obj.mapSeq fun _ => #[])).get? a = some (listOf #[] e1) := ⟨_, get?_update_seq ho (fun _ => #[])⟩
  refine wpAny_bind (seqEpoch_at ho1 rfl ?_)
  refine wpAny_bind (wpAny_newTuple ?_)
  refine wpAny_bind (wpAny_newList ?_)
  refine wpAny_holding ?_
  have hsz : ((s.heap.update a (Obj.mapSeq fun _ => (#[] : Array Value))).push { cls := .type "tuple", data := .seq (List.toArray [x]) }).objs.size = s.heap.objs.size + 1 := by rw [Heap.size_push, Heap.size_update]
  show wpAny _ _ (ksk_rest a (.ref q) false (List.toArray [x]) e1 (.ref ((s.heap.update a (Obj.mapSeq fun _ => (#[] : Array Value))).push { cls := .type "tuple", data := .seq (List.toArray [x]) }).objs.size)) _ _ { s with heap := ((s.heap.update a (Obj.mapSeq fun _ => (#[] : Array Value))).push { cls := .type "tuple", data := .seq (List.toArray [x]) }).push { cls := .type "list", data := .seq #[] } }
  rw [hsz]
  refine sort_rest (Nat.ne_of_gt (Nat.lt_succ_of_lt ha)) (h e1 _ (fun b o hb e => ?_) ?_ (Heap.get?_none_of_le (by omega)) ?_)
  · exact Heap.get?_push_of_some _ (Heap.get?_push_of_some _ ((Heap.get?_update_other _ _ (Ne.symm hb)).trans e))
  · exact Heap.get?_push_of_some _ (Heap.get?_push_of_some _ ho1)
  · rw [← hsz]; exact Heap.get?_push_size _ rfl
theorem sort_nil {a q : Addr} {k0 : Nat} {Q : PySem.Fin → Shared → Prop} (ho : s.heap.get? a = some (listOf #[] k0))
    (h : ∀ h', (∀ b ob, b ≠ a → s.heap.get? b = some ob → h'.get? b = some ob) → (∃ n', h'.get? a = some (listOf #[] n')) → Q (.done (.ret .none)) { s with heap := h' }) :
    wpAny (model prog wd) A (ksk_tree a (.ref q) false) Q E s := by
  unfold ksk_tree
  refine wpAny_bind (listItems_at ho rfl ?_)
  refine wpAny_bind (listUpdate_at ho rfl ?_ (by simp) (by simp))
  have ha : a < s.heap.objs.size := Heap.lt_size ho
  obtain ⟨e1, ho1⟩ : ∃ e1, (s.heap.update a (Obj.mapSeq fun _ => #[])).get? a = some (listOf #[] e1) := ⟨_, get?_update_seq ho (fun _ => #[])⟩
  refine wpAny_bind (seqEpoch_at ho1 rfl ?_)
  refine wpAny_bind (wpAny_newTuple ?_)
  refine wpAny_bind (wpAny_newList ?_)
  refine wpAny_holding ?_
  have hsz : ((s.heap.update a (Obj.mapSeq fun _ => (#[] : Array Value))).push { cls := .type "tuple", data := .seq (List.toArray []) }).objs.size = s.heap.objs.size + 1 := by rw [Heap.size_push, Heap.size_update]
  show wpAny _ _ (ksk_rest a (.ref q) false (List.toArray []) e1 (.ref ((s.heap.update a (Obj.mapSeq fun _ => (#[] : Array Value))).push { cls := .type "tuple", data := .seq (List.toArray []) }).objs.size)) _ _ { s with heap := ((s.heap.update a (Obj.mapSeq fun _ => (#[] : Array Value))).push { cls := .type "tuple", data := .seq (List.toArray []) }).push { cls := .type "list", data := .seq #[] } }
  rw [hsz]
  have hk : (((s.heap.update a (Obj.mapSeq fun _ => (#[] : Array Value))).push { cls := .type "tuple", data := .seq (List.toArray []) }).push { cls := .type "list", data := .seq #[] }).get? (s.heap.objs.size + 1) = some (listOf #[] 0) := by
    rw [← hsz]; exact Heap.get?_push_size _ rfl
  have ha1 : (((s.heap.update a (Obj.mapSeq fun _ => (#[] : Array Value))).push { cls := .type "tuple", data := .seq (List.toArray []) }).push { cls := .type "list", data := .seq #[] }).get? a = some (listOf #[] e1) := Heap.get?_push_of_some _ (Heap.get?_push_of_some _ ho1)
  have old : ∀ b o, b ≠ a → s.heap.get? b = some o → (((s.heap.update a (Obj.mapSeq fun _ => (#[] : Array Value))).push { cls := .type "tuple", data := .seq (List.toArray []) }).push { cls := .type "list", data := .seq #[] }).get? b = some o :=
    fun b o hb e => Heap.get?_push_of_some _ (Heap.get?_push_of_some _ ((Heap.get?_update_other _ _ (Ne.symm hb)).trans e))
  generalize ((s.heap.update a (Obj.mapSeq fun _ => (#[] : Array Value))).push { cls := .type "tuple", data := .seq (List.toArray []) }).push { cls := .type "list", data := .seq #[] } = h3 at hk ha1 old
  unfold ksk_rest
  refine wpAny_bind (wpAny_rule ?_)
  rw [← Array.forIn_toList]
  show wpAny _ _ (forIn [] PUnit.unit _ >>= _) _ _ _
  rw [List.forIn_nil]
  refine wpAny_bind (wpAny_pure ?_)
  refine wpAny_bind (listItems_at hk rfl ?_)
  unfold ksk_end
  rw [if_neg (by decide)]
  refine wpAny_bind (wpAny_pure ?_)
  rw [if_pos (by simp)]
  dsimp only
  rw [StateT.run_pure]
  refine wpAny_bind (wpAny_pure ?_)
  dsimp only
  rw [show (if false = true then ((#[] : Array Value).zip (#[] : Array Value)).reverse else (#[] : Array Value).zip (#[] : Array Value)) = #[] from by simp]
  unfold ksk_tail
  have hm : Array.map (fun y : Value × Value => y.2) (arrOf (SortSt.mk' general' #[] #[] 7 none)) = #[] := by
    rw [show arrOf (SortSt.mk' general' #[] #[] 7 none) = #[] from rfl]; simp
  simp only [Bool.false_eq_true, if_false, hm]
  have hka : s.heap.objs.size + 1 ≠ a := Nat.ne_of_gt (Nat.lt_succ_of_lt ha)
  refine wpAny_bind (listUpdate_at hk rfl ?_ (by simp) (by simp))
  refine wpAny_bind (wpAny_letGo ?_)
  have ha2 : (h3.update (s.heap.objs.size + 1) (Obj.mapSeq fun _ => #[])).get? a = some (listOf #[] e1) := by
    rw [Heap.get?_update_other _ _ hka]; exact ha1
  refine wpAny_bind (seqEpoch_at ha2 rfl ?_)
  refine wpAny_bind (listUpdate_at (f := fun _ => #[]) ha2 rfl ?_ (by simp) (Nat.zero_le _))
  show wpAny _ _ (if (e1 != e1) = true then _ else _) _ _ _
  rw [if_neg (by simp)]
  refine wpAny_pure (h _ (fun b ob hba e => ?_) ?_)
  · rw [Heap.get?_update_other _ _ (Ne.symm hba), Heap.get?_update_other _ _ (Nat.ne_of_gt (Nat.lt_succ_of_lt (Heap.lt_size e)))]; exact old b ob hba e
  · exact ⟨_, get?_update_seq ha2 (fun _ => #[])⟩
end
section
variable {args : List SV} {i : Nat}
theorem noPin_at (h : noPin σ = true) {so : SObj} (e : σ.objs[i]? = some so) : notPin so = true := List.all_eq_true.mp h so (List.mem_of_getElem? e)
theorem OD.repin {o ob : Obj} {so : SObj} (n : notPin so = true) (x : OD G ρ so ob) : OD (G.withPin o) ρ so ob := by
  cases so with
  | pin => cases n
  | dict es => cases x with | mk kvs d r => exact .mk kvs d r
  | adict j => cases x with | mk kvs d r ne le => exact .mk kvs d r ne le
  | fn k cs => cases x with | mk c ct doc => exact .mk c ct doc
  | _ => exact x
@[reducible] noncomputable def Cx.pin (X : Cx) (o : Obj) : Cx := { X with G := X.G.withPin o }
theorem At.repin {o : Obj} (S : At X fr σ w) (h : noPin σ = true) : At (X.pin o) fr σ w :=
  have F := S.2
  .mk (fun i so e => have O := S.1 i so e; ⟨by cases O.1 with | mk ob g d x => exact .mk ob g (d.repin (noPin_at h e)) x, O.2, O.3⟩) (.mk F.1 F.2 F.3 F.4 F.5 F.6 F.7 F.8 F.9 F.10 F.11 F.12 F.13 ⟨F.14.1, F.14.2, F.14.3, F.14.4, F.14.5⟩ F.15 F.16 F.17 F.18)
    S.3 S.4 S.5 S.6 S.7 S.8 S.9 S.10 S.11 S.12 S.13 (fun e he => by cases S.14 e he with | mk is h t => exact ⟨is, h, t⟩) S.15 S.16 S.17 S.18 S.19 S.20
theorem At.unpin {o : Obj} (S : At (X.pin o) fr σ w) (h : noPin σ = true) : At X fr σ w := S.repin (X := X.pin o) (o := X.G.pin) h
theorem nm_key : nm n_key = "key" := by decide +kernel
theorem bltSort : bltV n_sort = .builtin "list.sort" := by decide +kernel
theorem kw_one {n kn : Nat} {v : SV} {ws : List (PySem.Str × Value)} {C : List (PySem.Str × Value) → Prop} (dk : KWs V n [(kn, v)] ρ ws) (k : ∀ y, DV V n v ρ y → C [(nm kn, y)]) : C ws := by
  have d2 := dk.2
  cases dk.1 with
  | cons h1 h2 => cases h2 with
    | nil =>
      rename_i b
      obtain ⟨kk, y⟩ := b
      have e : kk = nm kn := h1.1
      cases e
      exact k y ⟨h1.2, d2 _ (.head _)⟩
theorem set_same {so : SObj} (hi : σ.objs[i]? = some so) : σ.set i so = σ := by
  obtain ⟨os, rs⟩ := σ
  refine congrArg (SS.mk · rs) (List.ext_getElem? fun j => ?_)
  by_cases q : i = j
  · cases q; exact (SS.set_at (σ := ⟨os, rs⟩) (SS.at_lt hi)).trans hi.symm
  · exact SS.set_ne (σ := ⟨os, rs⟩) q
theorem pin_of {o : SObj} (h : (!notPin o) = true) : o = .pin := by
  cases o with
  | pin => rfl
  | _ => cases h
theorem not_r {b : String} (h : bltV n_sort = .builtin b) (a : Addr) : bltV n_sort ≠ .ref a := fun q => nomatch h.symm.trans q
theorem sort_back {n : Nat} {x : SV} {v : Value} {h4 : Heap} {n4 m4 t : Nat} {o1 : Obj} (S : At X fr σ w) (hi : σ.objs[i]? = some .pin) (hn : σ.objs[n]? = some (.list [])) (e1 : w.s.heap.get? (w.ρ i) = some o1) (s1 : Soft o1) (hk : ∀ b ob, b ≠ w.ρ i → b ≠ w.ρ n → w.s.heap.get? b = some ob → h4.get? b = some ob) (ha : h4.get? (w.ρ i) = some (listOf (List.toArray [v]) n4)) (hs : h4.get? (w.ρ n) = some (listOf #[] m4)) (d : DV X.G.V σ.objs.length x w.ρ v) :
    At X fr (σ.set i (.list [x])) (w.hp h4 t) := by
  have ci := (S.1 i _ hi).2
  have cn := (S.1 n _ hn).2
  have le := leN (σ := σ) (so' := .list [x]) hi (fun _ _ => (nomatch ·))
  have hk' : ∀ b o, w.s.heap.get? b = some o → ¬ (b = w.ρ i ∨ b = w.ρ n) → h4.get? b = some o := fun b o e z => hk b o (fun q => z (.inl q)) (fun q => z (.inr q)) e
  have nf : ∀ {b c}, w.cl b = c → c ≠ .ob i → c ≠ .ob n → ¬ (b = w.ρ i ∨ b = w.ρ n) := fun h n1 n2 z => z.elim (fun q => n1 (h.symm.trans ((congrArg w.cl q).trans ci))) fun q => n2 (h.symm.trans ((congrArg w.cl q).trans cn))
  have nL := ns_at S.4 fun o e => hk' _ o e (nf S.6 (nomatch ·) (nomatch ·))
  have nlc : ∀ j, X.lc ≠ .ob j := fun j => by unfold Cx.lc; cases X.lm <;> exact (nomatch ·)
  have s2 : ∀ o, w.s.heap.get? (w.ρ n) = some o → Soft o := fun o e => S.at_ hn fun o' e' D => Option.some.inj (e'.symm.trans e) ▸ soft_list D
  refine move S (fun b => b = w.ρ i ∨ b = w.ρ n) (fun c => c = .ob i ∨ c = .ob n) (fun b q => q.imp (fun q => (congrArg w.cl q).trans ci) fun q => (congrArg w.cl q).trans cn) rfl hk' (fun b o c e => c.elim (fun q => Option.some.inj (e1.symm.trans ((congrArg w.s.heap.get? q).symm.trans e)) ▸ s1) fun q => s2 o ((congrArg w.s.heap.get? q).symm.trans e)) (fun _ _ => rfl) (fun b z c => c.elim (fun q => absurd q z) fun c => c.elim (fun q => ⟨_, (congrArg h4.get? q).trans ha⟩) fun q => ⟨_, (congrArg h4.get? q).trans hs⟩) le rfl (fun _ _ => rfl) (fun j sj e => ?_)
    (fun q => q.elim (nomatch ·) (nomatch ·)) (fun q => q.elim (nomatch ·) (nomatch ·)) nL (ns_at S.5 fun o e => hk' _ o e (nf S.7 (nlc i) (nlc n))) (S.nme (fun _ _ => rfl) le rfl) rfl rfl rfl (fun e he c => ?_) fun _ _ => rfl
  · by_cases q : i = j
    · cases q
      cases Option.some.inj ((SS.set_at (SS.at_lt hi)).symm.trans e)
      exact .inr ⟨.mk _ ha (.mk [v] n4 (.cons d.1 .nil)) trivial, ci, fun u hu => List.mem_singleton.mp hu ▸ SV.lt_le le.1 d.2⟩
    · have e' := (SS.set_ne q).symm.trans e
      by_cases z : n = j
      · cases z
        cases Option.some.inj (hn.symm.trans e')
        exact .inr ⟨.mk _ hs (.mk [] m4 .nil) trivial, cn, nil_all⟩
      · exact .inl ⟨e', fun c => c.elim (fun c => q (Cl.ob_inj c).symm) fun c => z (Cl.ob_inj c).symm, fun c => c.elim (nomatch ·) (nomatch ·)⟩
  · cases S.14 e he with
    | mk is _ _ =>
      obtain ⟨D, dd, hj⟩ := is
      exact c.elim (fun c => by cases Cl.ob_inj c; cases hi.symm.trans hj) fun c => by cases Cl.ob_inj c; cases hn.symm.trans hj
theorem bSort_ok {k : Nat} (C : Cs k) (hy : Hy X) (hk : fu k + 1 ≤ X.n) {b kn : Nat} {fv : SV} : Ok2 (bSort (run X.P k) X.hd b kn fv args σ) fun r σ' => CW X fr σ (.blt b) args [(kn, fv)] r σ' := .wh fun h => .on1 fun u ha => .onR fun i hu => .onL fun xs hi => by
  cases ha
  cases hu
  have a1 := an_bool h
  have a2 := an_bool a1.2
  cases Nat.eq_of_beq_eq_true a1.1
  cases Nat.eq_of_beq_eq_true a2.1
  have kp : ∀ w y, At X fr σ w → DV X.G.V σ.objs.length (.blt n_sort) w.ρ y → KpOK X.M y w.s.heap := fun w y S d => by cases d.1.trans bltSort; exact kp_plain (nr_b)
  have args : ∀ {w : Wd} {y ys ws g} {Q : Value → Shared → Prop} {E : Value → Shared → Prop}, At X fr σ w → DV X.G.V σ.objs.length (.blt n_sort) w.ρ y → DVs X.G.V σ.objs.length [.ref i] w.ρ ys → KWs X.G.V σ.objs.length [(n_key, .top g)] w.ρ ws → wpAny X.M X.A (PySem.call (.builtin "list.sort") [.ref (w.ρ i)] [("key", .ref g)]) Q E w.s → wpAny X.M X.A (PySem.call y ys ws) Q E w.s := fun {w y ys ws g Q E} S dy da dk h => by
    cases dy.1.trans bltSort
    exact arg1 (C := fun ys => wpAny X.M X.A (PySem.call (.builtin "list.sort") ys ws) Q E w.s) da fun y d => by
      cases d.1
      exact kw_one (C := fun ws => wpAny X.M X.A (PySem.call (.builtin "list.sort") [.ref (w.ρ i)] ws) Q E w.s) dk fun z dz => by cases dz.1; exact nm_key ▸ h
  cases fv with
  | top g =>
    cases xs with
    | nil =>
      refine .ret ⟨.refl _, trivial, kp, fun w y ys ws Q E S dy da dk k => args S dy da dk ?_⟩
      cases S.list hi with
      | mk vs m e L r =>
        cases r.1
        refine wpAny_call (codeAny_call_builtin PySem.F.slot_list_sort.plain PySem.F.entry_list_sort (PySem.F.slot_list_sort.check _ _ _ _ _ _ _ _ ⟨_, e, rfl⟩ (ksk_l1 _ _) ?_))
        rw [ksk_t1]
        refine sort_nil e fun h' hk hn => ?_
        obtain ⟨n', hn'⟩ := hn
        have S' := upd (t := w.s.toks) (h' := h') (so' := .list []) S hi (fun b o e n => hk b o n e) (fun o q => S.at_ hi fun o2 q2 D => by cases Option.some.inj (q.symm.trans q2); exact soft_list D) (.mk _ hn' (.mk [] n' .nil) trivial) nil_all (leN hi nL) (S.hdN hi nL)
        exact k _ .hp (set_same hi ▸ S') _ ⟨rfl, trivial⟩
    | cons x r =>
      refine .wh fun hr => .okE (ψ := fun r σ' => ∀ o, CW ((X.pin o).ar X.A.in1) fr ((σ.set i .pin).new (.list [])) (.top g) [x] [] r σ') (.all fun o => (C ((X.pin o).ar X.A.in1) hy (Nat.le_sub_one_of_lt hk)).3 (.top g) [x] [] fr _) fun z σ' H => ?_
      cases emp_of hr
      cases z with
      | int z =>
        refine .on fun ob hb => .wh fun hp1 => .onL fun ys hys => .wh fun h2 => .ret ?_
        cases pin_of hp1
        have h2 := an_bool h2
        cases emp_of h2.1
        have hil := SS.at_lt hi
        have le1 : σ.Le ((σ.set i .pin).new (.list [])) := (leN hi nL).trans .new
        have le2 := (le1.trans (H X.G.pin).1).trans (leN (so' := .list [x]) hb fun _ _ => (nomatch ·))
        refine ⟨le2, trivial, kp, fun w y ys ws Q E S dy da dk k => args S dy da dk ?_⟩
        cases S.list hi with
        | mk vs m e L r =>
          cases r.1 with
          | cons hv hnil => cases hnil with
            | nil =>
              rename_i v
              have hxl : x.lt σ.objs.length := S.ltO hi x (.head _)
              refine wpAny_call (codeAny_call_builtin PySem.F.slot_list_sort.plain PySem.F.entry_list_sort (PySem.F.slot_list_sort.check _ _ _ _ _ _ _ _ ⟨_, e, rfl⟩ (ksk_l1 _ _) ?_))
              rw [ksk_t1]
              refine sort_one e fun e1 h3 hk3 hpin hnone hks => ?_
              have S0 := S.repin (o := listOf #[] e1) a2.2
              have S1 := upd (t := w.s.toks) (h' := h3) (so' := .pin) S0 hi (fun b o e n => hk3 b o n e) (fun o q => S.at_ hi fun o2 q2 D => by cases Option.some.inj (q.symm.trans q2); exact soft_list D) (.mk _ hpin rfl trivial) trivial (leN hi nL) (S0.hdN hi nL)
              have S2 := newG (t := w.s.toks) (so := .list []) S1 (fun _ _ e _ => e) S1.4 (S.non hnone) hks (.mk [] 0 .nil) trivial nil_all
              rw [SS.len_set] at S2
              have S3 := S2.arnd (A := X.A.in1) (Nat.le_trans (Nat.le_add_left ..) hk) rfl (Nat.le_succ _) (Nat.add_le_add_left (show 1 ≤ 8 by decide) X.A.units) rfl
              have ll : σ.objs.length < ((σ.set i .pin).new (.list [])).objs.length := Nat.lt_of_lt_of_eq (Nat.lt_succ_self _) (SS.len_new.trans (congrArg (· + 1) SS.len_set)).symm
              refine (H (listOf #[] e1)).4 _ (.ref g) [v] [] _ (fun _ _ => False) S3 ⟨rfl, trivial⟩ ⟨.cons (hv.ext grow_lt hxl) .nil, fun u hu => List.mem_singleton.mp hu ▸ SV.lt_le le1.1 hxl⟩ no_KWs fun w4 x4 S4 y4 d4 => ?_
              have S4 := At.back (X := X.pin (listOf #[] e1)) (A := X.A.in1) S2.2 rfl S4
              have eI : w4.ρ i = w.ρ i := (x4.1 i (Nat.lt_trans hil ll)).trans (grow_lt i hil)
              have eK : w4.ρ σ.objs.length = w.s.heap.objs.size + 1 := (x4.1 _ ll).trans grow_eq
              refine S4.at_ hb fun o1 p1 D1 => S4.at_ hys fun o2 p2 D2 => ?_
              cases D1
              cases D2 with
              | mk vs2 m2 r2 =>
                cases r2
                refine ⟨eI ▸ p1, ⟨m2, eK ▸ p2⟩, fun h5 hk5 ha5 hs5 => ?_⟩
                obtain ⟨n5, ha5⟩ := ha5
                obtain ⟨m5, hs5⟩ := hs5
                have S5 := sort_back (t := w4.s.toks) (x := x) (v := v) S4 hb hys p1 (soft_list (V := X.G.V) (ρ := w4.ρ) (xs := []) (.mk [] e1 .nil)) (eI ▸ eK ▸ hk5) (eI ▸ ha5) (eK ▸ hs5) ⟨(hv.ext grow_lt hxl).ext x4.1 (SV.lt_le le1.1 hxl), SV.lt_le (le1.trans (H X.G.pin).1).1 hxl⟩
                exact k _ (Ex.trans (n := σ.objs.length) (m := σ.objs.length) ⟨fun j hj => (x4.1 j (Nat.lt_trans hj ll)).trans (grow_lt j hj), x4.2, x4.3, x4.4, x4.5⟩ (Nat.le_refl _) .hp) (S5.unpin h2.2) _ ⟨rfl, trivial⟩
      | _ => exact .nil
  | _ => exact .nil
end
section
variable {args : List SV} {kws : List (Nat × SV)} {k : Nat}
theorem newInst (S : At X fr σ w) {C x dx : Addr} {h' : Heap} {tk : Nat} (F : Fr w.k X.L h' w.m) (N : News w.k X.L h' ((x, instObj C dx) :: (dx, dictOf [] 0) :: AN w.k X.L w.s.heap)) (hlt : ∀ p ∈ AN w.k X.L w.s.heap, p.1 < dx) (hx : dx < x) : At X fr ((σ.new (.dict [])).new (.inst C σ.objs.length)) ((w.al σ.objs.length dx h' tk).al (σ.objs.length + 1) x h' tk) := by
  have nd := N (dx, dictOf [] 0) (.tail _ (.head _))
  have nx := N (x, instObj C dx) (.head _)
  have no : ∀ {b}, b ≠ X.L → w.k.get? b = none → dx ≤ b → w.s.heap.get? b = none := fun {b} h1 h2 h3 => by
    cases q : w.s.heap.get? b with
    | none => rfl
    | some o => exact absurd (hlt (b, o) (AN.mem.mpr ⟨q, h1, h2⟩)) (Nat.not_lt.mpr h3)
  have S1 := newF (t := tk) (so := .dict []) S (AN.keep S F (fun p hp => N p (.tail _ (.tail _ hp))) fun p hp => hp) F.ns (no nd.2.1 nd.2.2 (Nat.le_refl _)) nd.1 (.mk [] (.mk [] 0 (fun e he => absurd he (Array.not_mem_empty e)) .nil List.nodup_nil) .nil) trivial nil_all
  have S2 := newG (t := tk) (so := .inst C σ.objs.length) S1 (fun _ _ e _ => e) S1.4 ((clUp_ne (Nat.ne_of_gt hx)).trans (S.non (no nx.2.1 nx.2.2 (Nat.le_of_lt hx)))) nx.1 (congrArg (instObj C) grow_eq.symm) trivial (Nat.lt_of_lt_of_eq (Nat.lt_succ_self _) SS.len_new.symm)
  rw [SS.len_new] at S2
  exact S2
noncomputable def tcCode (C : Addr) (ys : List Value) (ws : List (PySem.Str × Value)) : Code := .builtin "type.__call__" ⟨.ref C :: ys, ws⟩
theorem tc_weight {C : Addr} {ys : List Value} {ws : List (PySem.Str × Value)} : (tcCode C ys ws).weight = 1 := by
  have h1 : (tcCode C ys ws).frames = 0 := rfl
  have h2 : (tcCode C ys ws).isCreation = true := rfl
  have h3 : (tcCode C ys ws).isGuard = false := by show guardIds.contains "type.__call__" = false; decide +kernel
  have h4 : (tcCode C ys ws).isCaller = false := rfl
  unfold Code.weight
  rw [h1, h2, h3, h4]; rfl
theorem nm_init : nm n___init__ = "__init__" := by decide +kernel
theorem At.tc (S : At X fr σ w) (h : 1 ≤ X.n) {C : Addr} {ys : List Value} {ws : List (PySem.Str × Value)} : At (X.ar (X.A.under (tcCode C ys ws))) fr σ w :=
  S.arnd h rfl (by show X.A.depth + (tcCode C ys ws).weight ≤ _; rw [tc_weight]; exact Nat.le_refl _) (Nat.add_le_add_left (show 1 ≤ 8 by decide) X.A.units) rfl
theorem inst_le {C : Nat} : σ.Le ((σ.new (.dict [])).new (.inst C σ.objs.length)) := SS.Le.new.trans .new
theorem inst_len {C : Nat} : ((σ.new (.dict [])).new (.inst C σ.objs.length)).objs.length = σ.objs.length + 2 := SS.len_new.trans (congrArg (· + 1) SS.len_new)
theorem Ex.al2 {O : List Env} {n a b : Nat} {h : Heap} {t : Nat} : Ex O n w ((w.al n a h t).al (n + 1) b h t) := .of rfl fun i hi => (grow_lt i (Nat.lt_succ_of_lt hi)).trans (grow_lt i hi)
theorem call_init {C g : Nat} {l : List (Nat × CA)} (hn : 1 ≤ X.n) (hl : lk X.P.classes C = some l) (hi : lk l n___init__ = some (.fn g)) (H : ∀ A, CT (X.ar A) fr ((σ.new (.dict [])).new (.inst C σ.objs.length)) (.top g) (.ref (σ.objs.length + 1) :: args) kws (.ok .none) σ') : CT X fr σ (.top C) args kws (.ok (.ref (σ.objs.length + 1))) σ' := by
  refine ⟨inst_le.trans (H X.A).1, trivial, fun w y S d => by cases d.1; exact kp_K S.K (S.cls hl).6, fun w y ys ws R S dy da dk k => ?_⟩
  cases dy.1
  have K := S.cls hl
  have A := (K.12 n___init__ (by decide)).fn hi
  refine make_K S.Fr_ AN.news S.K K.7 (nm_init ▸ A.1) A.5 fun x dx h' F' N' hlt hx => ?_
  have S2 := newInst (tk := w.s.toks) S F' N' hlt hx
  have ln : σ.objs.length + 1 < ((σ.new (.dict [])).new (.inst C σ.objs.length)).objs.length := Nat.lt_of_lt_of_eq (Nat.lt_succ_self _) inst_len.symm
  have e2 : ∀ i, i < σ.objs.length → ((w.al σ.objs.length dx h' w.s.toks).al (σ.objs.length + 1) x h' w.s.toks).ρ i = w.ρ i := (Ex.al2 (O := []) (w := w)).1
  have da2 := da.ext e2 (inst_le (σ := σ) (C := C)).1
  have e : Value.ref x = .ref (((w.al σ.objs.length dx h' w.s.toks).al (σ.objs.length + 1) x h' w.s.toks).ρ (σ.objs.length + 1)) := congrArg Value.ref grow_eq.symm
  refine (H (X.A.under (tcCode C ys ws))).4 _ (.ref g) (.ref x :: ys) ws _ (S2.tc hn) ⟨rfl, trivial⟩ ⟨.cons e da2.1, fun v hv => (List.mem_cons.mp hv).elim (fun q => q ▸ ln) (da2.2 v)⟩ ⟨dk.1.monoM (fun _ _ p q => ⟨q.1, q.2.ext e2 p⟩) dk.2, fun e he => SV.lt_le inst_le.1 (dk.2 e he)⟩ fun w3 x3 S3 z dz => ?_
  cases dz.1
  exact ⟨rfl, k w3 (Ex.al2.trans (Nat.le_of_lt (Nat.lt_of_succ_lt ln)) x3) (At.back (A := X.A.under (tcCode C ys ws)) S.2 rfl S3) _ ⟨e.trans (congrArg Value.ref (x3.1 _ ln).symm), Nat.lt_of_lt_of_le ln (H X.A).1.1⟩⟩
theorem call_init0 {C : Nat} {l : List (Nat × CA)} (hl : lk X.P.classes C = some l) (hi : lk l n___init__ = some .obj) : CT X fr σ (.top C) [] [] (.ok (.ref (σ.objs.length + 1))) ((σ.new (.dict [])).new (.inst C σ.objs.length)) := by
  refine ⟨inst_le, trivial, fun w y S d => by cases d.1; exact kp_K S.K (S.cls hl).6, fun w y ys ws R S dy da dk k => ?_⟩
  cases dy.1
  cases da.1
  cases dk.1
  have K := S.cls hl
  exact make_K0 S.Fr_ AN.news S.K K.7 (K.8 hi) fun x dx h' F' N' hlt hx => k _ Ex.al2 (newInst (tk := w.s.toks) S F' N' hlt hx) _ ⟨congrArg Value.ref grow_eq.symm, Nat.lt_of_lt_of_eq (Nat.lt_succ_self _) inst_len.symm⟩
theorem call_exc (hn : 1 ≤ X.n) (h0 : 0 < σ.objs.length) (h9 : args.length ≤ 9) (H : ∀ A, CT (X.ar A) fr (σ.new (.exc 849 0)) (.top 846) (.ref σ.objs.length :: args) [] (.ok .none) σ') : CT X fr σ (.top 849) args [] (.ok (.ref σ.objs.length)) σ' := by
  refine ⟨SS.Le.new.trans (H X.A).1, trivial, fun w y S d => by cases d.1; exact kp_K S.K S.pk.8, fun w y ys ws R S dy da dk k => ?_⟩
  cases dy.1
  cases dk.1
  have ln : σ.objs.length < (σ.new (.exc 849 0)).objs.length := Nat.lt_of_lt_of_eq (Nat.lt_succ_self _) SS.len_new.symm
  have main : ∀ h' e, Heap.MadeExcOf w.s.heap h' e (.ref 849) ys → wpAny X.M (X.A.under (tcCode 849 ys [])) (PySem.call (.ref 846) (.ref e :: ys)) (fun r s' => r = .none ∧ R (.ok (.ret (.ref e))) s') (fun e s' => R (.error e) s') { w.s with heap := h' } := fun h' e hm => by
    obtain ⟨tt, ht, _, _⟩ := hm.there
    have S2 := new (t := w.s.toks) (so := .exc 849 0) S (fun b o eb => hm.keeps b o eb) hm.new ht (.mk _ rfl rfl rfl (by simp) rfl (.inl rfl)) (fun T z => by cases z) h0
    have da2 := da.ext (ρ' := grow w.ρ σ.objs.length e) grow_lt (SS.Le.new (σ := σ) (so := .exc 849 0)).1
    have ee : Value.ref e = .ref (grow w.ρ σ.objs.length e σ.objs.length) := congrArg Value.ref grow_eq.symm
    refine wpAny_call ((H (X.A.under (tcCode 849 ys []))).4 _ (.ref 846) (.ref e :: ys) [] _ (S2.tc hn) ⟨rfl, trivial⟩ ⟨.cons ee da2.1, fun v hv => (List.mem_cons.mp hv).elim (fun q => q ▸ ln) (da2.2 v)⟩ no_KWs fun w3 x3 S3 z dz => ?_)
    cases dz.1
    exact ⟨rfl, k w3 (Ex.al.trans (Nat.le_of_lt ln) x3) (At.back (A := X.A.under (tcCode 849 ys [])) S.2 rfl S3) _ ⟨ee.trans (congrArg Value.ref (x3.1 _ ln).symm), Nat.lt_of_lt_of_le ln (H X.A).1.1⟩⟩
  cases S.pk.4 _ S.K with
  | mk nm' q N bs sn sub ab col dd2 k0 k1 k2 k3 k5 mN hC hN hi no hf =>
    obtain ⟨oI, hfI, hfc⟩ := hf
    have hF := PySem.F.excBase_Exception
    have f1 := tc_lookup
    have f2 := tc_bind (.ref 849)
    obtain ⟨wk, wρ, ⟨hp, g, dr, t, os⟩, wcl, wm, wme⟩ := w
    have hT : (⟨hp, g, dr, t, os⟩ : Shared).TypeIs (.ref 849) "type" := ⟨_, hC, rfl⟩
    refine codeAny_of_tree ?_
    show wpAny _ _ (callAny (.ref 849) _) _ _ _
    repeat (any_goals (first | assumption | with_reducible refine wpAny_loadPart_at hC ?_ | wp_step))
    refine ⟨rfl, ?_⟩
    refine codeAny_call_builtin_at (Code.quiet_builtin _ (by decide +kernel)) entry_typeCall (wpAny_check_type_call_sub hC (wpAny_type_call_exc_init (hrest := ?_) hF hC hN hi hfI hfc fun h' e hm => ?_))
    · exact main h' e hm
    · have := All2.length da.1
      show ys.length ≤ sizeLine
      exact Nat.le_trans (this ▸ h9) (Nat.le_trans (by decide) size_1000)
theorem ne_empty {α : Type} {l : List α} (h : (!l.isEmpty) = true) : 0 < l.length := by cases l with | nil => cases h | cons => exact Nat.succ_pos _
theorem callT_ok (C : Cs k) (hy : Hy X) (hk : fu k + 1 ≤ X.n) {a : Nat} : Ok2 (callT X.P (run X.P k) X.hd a args kws σ) fun r σ' => CT X fr σ (.top a) args kws r σ' := by
  have hn : 1 ≤ X.n := Nat.le_trans (Nat.le_add_left ..) hk
  refine .opt (fun _ => .opt (fun _ => .wh fun h => ?_) fun l hl => .bind fun c hc => ?_) fun F hF => callTop_ok C hy hk hF
  · have a1 := an_bool h
    have a2 := an_bool a1.2
    have a3 := an_bool a2.2
    cases Nat.eq_of_beq_eq_true a1.1
    cases emp_of a3.1
    exact .okE (ψ := fun r σ' => ∀ A, CT (X.ar A) fr (σ.new (.exc 849 0)) (.top 846) (.ref σ.objs.length :: args) [] r σ') (.all fun A => (C (X.ar A) hy (Nat.le_sub_one_of_lt hk)).4 846 _ [] fr _) fun v σ' H => .onN fun hv => .ret (call_exc hn (ne_empty a3.2) (Nat.le_of_ble_eq_true a2.1) (hv ▸ H))
  · cases c with
    | fn g => exact .okE (ψ := fun r σ' => ∀ A, CT (X.ar A) fr ((σ.new (.dict [])).new (.inst a σ.objs.length)) (.top g) (.ref (σ.objs.length + 1) :: args) kws r σ') (.all fun A => (C (X.ar A) hy (Nat.le_sub_one_of_lt hk)).4 g _ kws fr _) fun v σ' H => .onN fun hv => .ret (call_init hn hl hc (hv ▸ H))
    | obj =>
      exact .wh fun h => by
        cases emp_of (an_bool h).1
        cases emp_of (an_bool h).2
        exact .ret (call_init0 hl hc)
    | val => exact .nil
theorem callB_ok (C : Cs k) (hy : Hy X) (hk : fu k + 2 ≤ X.n) {b : Nat} : Ok2 (callB X.P (run X.P k) X.hd b args kws σ) fun r σ' => CW X fr σ (.blt b) args kws r σ' := by
  cases kws with
  | nil => exact .cond (fun h => Nat.eq_of_beq_eq_true h ▸ bBool_ok C hy hk) fun _ => callB0_ok
  | cons e r =>
    exact .wh fun h => by
      cases emp_of h
      exact bSort_ok C hy (Nat.le_of_succ_le hk)
theorem call1_ok (C : Cs k) (hy : Hy X) (hk : fu k + 2 ≤ X.n) {f : SV} : Ok2 (call1 X.P (run X.P k) X.hd f args kws σ) fun r σ' => CW X fr σ f args kws r σ' := by
  have hk1 := Nat.le_of_succ_le hk
  cases f with
  | top a => exact (callT_ok C hy hk1).mono fun r H => H.cw
  | blt b => exact callB_ok C hy hk
  | ref i =>
    refine .on fun o hi => ?_
    cases o with
    | fn j cs => exact .bind fun c hc => (callFn_ok C hy hk1 hi hc).mono fun r H => H.cw
    | bm g self => exact .bind fun F hF => ((C X hy (Nat.le_of_succ_le hk1)).4 g _ kws fr σ).mono fun r H => (callBm hy hi hF H).cw
    | _ => exact .nil
  | _ => exact .nil
end
section
variable {fr₁ fr₂ : SFr} {fl : Fl} {e i C d : Nat}
@[reducible] noncomputable def Cx.held (X : Cx) (e : Nat) (a : Addr) : Cx := { X with A := X.A.mark (some (.ref a)), hd := some e }
theorem EnvOK.held {a : Addr} (E : EnvOK c X) : EnvOK c (X.held e a) := ⟨E.1, E.2, E.3, E.4⟩
theorem At.take (S : At X fr σ w) (hi : σ.objs[e]? = some (.exc C d)) (t : Tbd w.s.heap (w.ρ e)) : At (X.held e (w.ρ e)) fr σ w :=
  have F := S.2
  .mk (fun i so q => have O := S.1 i so q; ⟨O.1, O.2, O.3⟩) (.mk F.1 F.2 F.3 F.4 F.5 F.6 F.7 F.8 F.9 F.10 F.11 F.12 F.13 F.14 F.15 F.16 F.17 (fun q => nomatch q)) S.3 S.4 S.5 S.6 S.7 S.8 S.9 S.10 S.11 S.12 S.13 (fun e' he => by cases he; exact ⟨⟨C, d, hi⟩, rfl, t⟩) S.15 S.16 S.17 S.18 S.19 S.20
theorem At.drop {a : Addr} (F : Fs X) (hn : X.hd = none) (S : At (X.held e a) fr σ w) : At X fr σ w :=
  .mk (fun i so q => have O := S.1 i so q; ⟨O.1, O.2, O.3⟩) F S.3 S.4 S.5 S.6 S.7 S.8 S.9 S.10 S.11 S.12 S.13 (fun e' he => nomatch hn.symm.trans he) S.15 S.16 S.17 S.18 S.19 S.20
theorem ex_try_next {b os : List Stmt} {h₀ : ExceptHandler} {hs : List ExceptHandler} {p : Pos} (H : XT X fr σ (PySem.execs b X.env) .next fr₁ σ₁) (H2 : XT X fr₁ σ₁ (PySem.execs os X.env) fl fr₂ σ₂) : XT X fr σ (PySem.exec (.Try b (h₀ :: hs) os [] p) X.env) fl fr₂ σ₂ :=
  ⟨H.1.trans H2.1, H2.2, fun w Q E _ S k => by
    rw [arm_exec_Try]
    exact wpAny_bind (wpAny_standAt (wpAny_tryStmt_except (H.3 w _ _ trivial S fun w1 x1 S1 f q => by cases q; exact H2.3 w1 Q E trivial S1 fun w2 x2 => k w2 (x1.trans H.1.1 x2))))⟩
theorem try_caught {M : Model} {A : Around} {E : Value → Shared → Prop} (S : At X fr σ w) (hi : σ.objs[i]? = some (.exc C d)) (hfe : X.env = X.fenv) (hA : A.frames = X.A.frames) {Q : Unit → Shared → Prop} (k : ∀ w', Ex X.outer σ.objs.length w w' → At X fr σ w' → w'.ρ = w.ρ → Tbd w'.s.heap (w.ρ i) → Q () w'.s) :
    wpAny M A (noteFrame (.ref (w.ρ i)) X.env) (fun _ s₂ => wpAny M A (setFlight (.ref (w.ρ i)) none) Q E s₂) E w.s :=
  noteFrame_ok S hi hfe hA fun w1 x1 S1 e1 t => (congrArg (fun r : Nat → Addr => Value.ref (r i)) e1) ▸ setFlight_ok S1 hi fun w2 x2 S2 e2 t2 => k w2 (x1.trans (Nat.le_refl _) x2) S2 (e2.trans e1) ((congrArg (fun r : Nat → Addr => r i) e1) ▸ t2 ((congrArg (fun r : Nat → Addr => r i) e1).symm ▸ t))
theorem ex_bare {b hb os : List Stmt} {b₀ : Stmt} {hp p : Pos} (hn : X.hd = none) (hfe : X.env = X.fenv) (H : XT X fr σ (PySem.execs b X.env) (.exc e) fr₁ σ₁) (H2 : ∀ a, XT (X.held e a) fr₁ σ₁ (PySem.execs (b₀ :: hb) X.env) fl fr₂ σ₂) : XT X fr σ (PySem.exec (.Try b [.ExceptHandler none none (b₀ :: hb) hp] os [] p) X.env) fl fr₂ σ₂ := by
  obtain ⟨C, d, he⟩ := H.2
  refine ⟨H.1.trans (H2 0).1, (H2 0).2, fun w Q E _ S k => ?_⟩
  rw [arm_exec_Try]
  refine wpAny_bind (wpAny_standAt (wpAny_tryStmt_except (H.3 w _ _ trivial S fun w1 x1 S1 => ?_)))
  refine try_caught S1 he hfe rfl fun w2 x2 S2 e2 t => ?_
  refine handleBy_bare (nomatch ·) ?_
  rw [← e2] at t ⊢
  refine setFlight_ok S2 he fun w3 x3 S3 e3 t3 => ?_
  rw [← e3] at t t3 ⊢
  have x03 := (x1.trans H.1.1 (x2.trans (Nat.le_refl _) x3))
  have H3 := H2 (w3.ρ e)
  refine H3.3 w3 _ _ trivial (S3.take he (t3 (e3 ▸ t))) fun w4 x4 S4 => ?_
  have S4 := S4.drop S.2 hn
  have x04 := x03.trans H.1.1 x4
  cases fl with
  | next => exact k w4 x04 S4
  | ret v => exact k w4 x04 S4
  | exc x =>
    obtain ⟨C', d', hx⟩ := H3.2
    exact noted_ok (A := X.A.mark (some (.ref (w3.ρ e)))) (A' := X.A) S4 hx hfe rfl fun w5 x5 S5 e5 => congrArg (fun r : Nat → Addr => Value.ref (r x)) e5 ▸ k w5 (x04.trans (H.1.trans H3.1).1 x5) S5
theorem ex_reraise {p : Pos} (hh : X.hd = some e) (he : σ.objs[e]? = some (.exc C d)) : XT X fr σ (PySem.exec (.Raise none none p) X.env) (.exc e) fr σ :=
  ⟨.refl _, ⟨C, d, he⟩, fun w Q E _ S k => by
    cases S.14 e hh with
    | mk _ hH t => cases t with
      | mk oe e1 T f =>
        refine S.at_ he fun o e1' D => ?_
        cases Option.some.inj (e1.symm.trans e1')
        cases D with
        | mk vs _ _ e2 =>
          refine wpAny_bind (m := standAt p) (wpAny_standAt ?_)
          unfold raiseStmt
          refine wpAny_bind (wpAny_handled ?_)
          rw [hH]
          refine wpAny_bind (wpAny_rule (wpAny_bind (wpAny_field e1 e2 ((fld_of e2).symm.trans f) ?_)))
          rw [if_neg (by exact Bool.false_ne_true)]
          exact wpAny_bind (setFlight_ok S he fun w1 x1 S1 e1 _ => wpAny_throw (congrArg (fun r : Nat → Addr => Value.ref (r e)) e1 ▸ k w1 x1 S1))⟩
theorem ex_raise {x : Expr} {p : Pos} (hn : X.hd = none) (H : HV X fr σ (eval x X.env) (.ref i) σ₁) (hi : σ₁.objs[i]? = some (.exc 849 d)) : XT X fr σ (PySem.exec (.Raise (some x) none p) X.env) (.exc i) fr σ₁ :=
  ⟨H.1, ⟨849, d, hi⟩, fun w Q E _ S k => by
    show wpAny X.M X.A (do standAt p; raiseStmt X.env (some (do let v ← eval x X.env; standAt p; pure v)) none) Q E w.s
    refine wpAny_bind (wpAny_standAt ?_)
    unfold raiseStmt
    dsimp only
    refine wpAny_bind (wpAny_bind (H.3 w _ E trivial S fun w1 x1 S1 xv r => wpAny_bind (wpAny_standAt (wpAny_pure ?_))))
    cases r.1
    have hA := S.2.18 hn
    cases S.pk.4 _ S1.K with
    | mk nm' q N bs sn sub ab col dd2 k0 k1 k2 k3 k5 mN hC hN hI no hf =>
      refine S1.at_ hi fun o c1 D => ?_
      cases D with
      | mk vs c2 c3 c4 =>
        have hnt : ∀ {Q' : Bool → Shared → Prop}, Q' false w1.s → wpAny X.M X.A (isType (.ref (w1.ρ i))) Q' E w1.s := by
          intro Q' hq
          unfold isType loadHead
          refine wpAny_bind (wpAny_loadPart c1 ?_)
          rw [c4]; exact wpAny_pure hq
        have t1 : Looks X.M w1.s.heap (typeOf (.ref (w1.ρ i))) (.ref 849) := c2 ▸ (Looks.ld c1).andThen .now
        have t2 : Looks X.M w1.s.heap (typeOf (.ref 849)) (.type "type") := (Looks.ld hC).andThen .now
        refine wpAny_bind (wpAny_pure ?_)
        dsimp only
        refine wpAny_bind (wpAny_holding ?_)
        unfold excFromValue isExcClass
        refine wpAny_bind (wpAny_bind (hnt ?_))
        rw [if_neg Bool.false_ne_true]
        refine wpAny_pure ?_
        rw [if_neg Bool.false_ne_true]
        unfold isInstance
        refine wpAny_bind (wpAny_bind (t1.here ?_))
        refine wpAny_isSubtype_exc hC ?_
        rw [if_pos (by decide +kernel)]
        refine wpAny_pure ?_
        refine wpAny_bind (hnt ?_)
        rw [if_neg Bool.false_ne_true]
        unfold raisedInstance
        refine wpAny_bind (wpAny_bind (t1.here (wpAny_bind (t2.here ?_))))
        rw [if_pos (by decide +kernel)]
        refine wpAny_pure ?_
        refine wpAny_bind (setFlight_ok S1 hi fun w2 x2 S2 e2 _ => ?_)
        exact wpAny_raiseNew_none hA (congrArg (fun r : Nat → Addr => Value.ref (r i)) e2 ▸ k w2 (x1.trans H.1.1 x2) S2)⟩
theorem ex_finally {b : List Stmt} {f₀ : Stmt} {fs : List Stmt} {p : Pos} (n : ∀ e, fl ≠ .exc e) (H : XT X fr σ (PySem.execs b X.env) fl fr₁ σ₁) (H2 : XT X fr₁ σ₁ (PySem.execs (f₀ :: fs) X.env) .next fr₂ σ₂) : XT X fr σ (PySem.exec (.Try b [] [] (f₀ :: fs) p) X.env) fl fr₂ σ₂ :=
  ⟨H.1.trans H2.1, by cases fl <;> first | trivial | exact absurd rfl (n _), fun w Q E _ S k => by
    rw [arm_exec_Try]
    refine wpAny_bind (wpAny_standAt (wpAny_tryStmt_finally (H.3 w _ _ trivial S fun w1 x1 S1 => ?_)))
    cases fl with
    | exc e => exact absurd rfl (n e)
    | next =>
      intro f q
      cases q
      exact wpAny_execs_nil (H2.3 w1 _ _ trivial S1 fun w2 x2 S2 f q => by cases q; exact k w2 (x1.trans H.1.1 x2) S2 _ rfl)
    | ret v =>
      intro f q
      obtain ⟨y, rfl, dy⟩ := q
      exact H2.3 w1 _ _ trivial S1 fun w2 x2 S2 f q => by cases q; exact k w2 (x1.trans H.1.1 x2) S2 _ ⟨y, rfl, dy.ext x2.1 H2.1.1⟩⟩
end
theorem slice_index : typeLookup (.type "slice") "__index__" = pure none := PySem.slice_no_index
section
variable {s : Shared} {E : Value → Shared → Prop} {A : Around} {prog : Program} {wd : World}
theorem mapSeq_set {items : Array Value} {n : Nat} {g : Array Value → Array Value} {y : Array Value} (h : g items = y) : ∃ n', Obj.mapSeq g (listOf items n) = listOf y n' := h ▸ ⟨_, rfl⟩
theorem len1 {α : Type} {l : List α} (h : l.length ≤ 1) : l = [] ∨ ∃ x, l = [x] := by
  cases l with
  | nil => exact .inl rfl
  | cons x r => cases r with
    | nil => exact .inr ⟨x, rfl⟩
    | cons y r => exact absurd h (Nat.not_le_of_lt (Nat.succ_lt_succ (Nat.succ_pos _)))
theorem del_all {l a : Addr} {items : List Value} {n : Nat} {Q : Unit → Shared → Prop} (hl : s.heap.get? l = some (listOf (List.toArray items) n)) (hs : s.heap.get? a = some { cls := .type "slice", data := .fields #[.none, .none, .none] }) (hn : items.length ≤ 1)
    (k : ∀ h', Heap.SameBut l s.heap h' → (∃ n', h'.get? l = some (listOf #[] n')) → Q () { s with heap := h' }) : wpAny (model prog wd) A (delItem (.ref l) (.ref a)) Q E s := by
  have hT : s.TypeIs (.ref l) "list" := ⟨_, hl, rfl⟩
  have hTs : s.TypeIs (.ref a) "slice" := ⟨_, hs, rfl⟩
  unfold delItem
  refine wpAny_holding (wpAny_bind (wpAny_sequenceKey hT (by decide) ?_))
  refine wpAny_bind (wpAny_callSpecial?_slot (name := "__delitem__") hT PySem.F.slot_list_delitem (wpAny_call_entry PySem.F.slot_list_delitem hT PySem.F.entry_list_delitem ?_ (PySem.F.args_list_delitem_2 _ _)))
  show wpAny _ _ (Builtin.List.listSubscript? (.ref a) >>= _) _ _ s
  unfold Builtin.List.listSubscript?
  refine wpAny_bind (wpAny_bind (wpAny_specialOf hTs slice_index ?_))
  simp only [Option.isNone_none, if_true]
  refine wpAny_pure ?_
  dsimp only
  refine wpAny_bind (wpAny_typeOf hTs ?_)
  rw [if_neg (by decide)]
  unfold Builtin.List.listSliceParts
  refine wpAny_bind (wpAny_bind (wpAny_field hs rfl (i := 2) (x := .none) rfl ?_))
  refine wpAny_bind (wpAny_pure ?_)
  rw [if_neg (by decide)]
  refine wpAny_bind (wpAny_field hs rfl (i := 0) (x := .none) rfl ?_)
  refine wpAny_bind (wpAny_pure ?_)
  refine wpAny_bind (wpAny_field hs rfl (i := 1) (x := .none) rfl ?_)
  refine wpAny_bind (wpAny_pure ?_)
  refine wpAny_pure ?_
  dsimp only
  refine wpAny_bind (wpAny_bind (wpAny_seqItems hl rfl (wpAny_pure ?_)))
  refine wpAny_bind (wpAny_pure (a := ((0 : Int), ((List.toArray items).size : Int), (1 : Int))) ?_)
  dsimp only
  refine wpAny_bind (wpAny_rule ?_)
  have hsz := size_1000
  refine wpAny_bind (wpAny_updateSeq hl rfl ?_ (by rw [List.size_toArray]; omega) ?_)
  · refine wpAny_bind (wpAny_letGo (wpAny_pure ⟨.none, rfl, wpAny_pure (k _ (Heap.SameBut.update ..) ?_)⟩))
    rw [Heap.get?_update_self _ hl rfl]
    rcases len1 hn with e | ⟨x, e⟩ <;> (rw [e]; exact ⟨_, rfl⟩)
  · rcases len1 hn with e | ⟨x, e⟩ <;> (rw [e]; exact Nat.zero_le _)
end
section
variable {fr₁ fr₂ : SFr} {l : Nat}
theorem ex_delsl {e : Expr} {sp p2 p : Pos} {xs : List SV} (H : HV X fr σ (eval e X.env) (.ref l) σ₁) (hl : σ₁.objs[l]? = some (.list xs)) (hn : xs.length ≤ 1) : XT X fr σ (PySem.exec (.Delete [.Subscript e (.Slice none none none sp) p2] p) X.env) .next fr (σ₁.set l (.list [])) :=
  ⟨H.1.trans (leN hl nL), trivial, fun w Q E _ S k => by
    refine wpAny_Delete (wpAny_deleteEach_cons ?_)
    rw [arm_delete_Subscript]
    refine wpAny_bind (H.3 w _ _ trivial S fun w1 x1 S1 y d => ?_)
    cases d.1
    refine wpAny_bind (wpAny_holding ?_)
    rw [arm_eval_Slice]
    refine wpAny_bind (wpAny_pure (a := Value.none) (wpAny_bind (wpAny_holding (wpAny_pure (a := Value.none) (wpAny_bind (wpAny_holding (wpAny_pure (a := Value.none) ?_)))))))
    unfold newFields
    refine wpAny_newObj_type ?_ (by size_fits)
    refine wpAny_bind (wpAny_standAt (wpAny_bind (wpAny_holding ?_)))
    have S2 := keep (t := w1.s.toks) (h' := w1.s.heap.push { cls := .type "slice", data := .fields #[.none, .none, .none] }) S1 fun b o e => Heap.get?_push_of_some _ e
    cases S2.list hl with
    | mk vs m g L r => exact del_all (s := { w1.s with heap := w1.s.heap.push { cls := .type "slice", data := .fields #[.none, .none, .none] } }) g (Heap.get?_push_at rfl rfl) (r.1.length ▸ hn) fun h3 hs ⟨n', hg⟩ => wpAny_release (wpAny_deleteEach_nil (k _ (x1.trans H.1.1 (Ex.hp.trans (Nat.le_refl _) .hp)) (setL (t := w1.s.toks) (vs' := []) S2 hl g hs hg ⟨.nil, nil_all⟩) _ rfl))⟩
theorem ex_as {b hb os : List Stmt} {b₀ : Stmt} {hp np p : Pos} {g x e d : Nat} {v : SV} (hn : X.hd = none) (hfe : X.env = X.fenv) (hg : lk X.P.globs g = some (.top 849)) (hgl : X.env.scope.names.lookup (nm g) = some .globalImplicit) (hx : X.env.scope.names.lookup (nm x) = some .local)
    (H : XT X fr σ (PySem.execs b X.env) (.exc e) fr₁ σ₁) (he : σ₁.objs[e]? = some (.exc 849 d)) (H2 : ∀ a, XT (X.held e a) (fr₁.put x (.ref e)) σ₁ (PySem.execs (b₀ :: hb) X.env) (.ret v) fr₂ σ₂) :
    XT X fr σ (PySem.exec (.Try b [.ExceptHandler (some (.Name (nm g) np)) (some (nm x)) (b₀ :: hb) hp] os [] p) X.env) (.ret v) ⟨[], fr₂.cel⟩ σ₂ := by
  refine ⟨H.1.trans (H2 0).1, trivial, fun w Q E _ S k => ?_⟩
  rw [arm_exec_Try]
  refine wpAny_bind (wpAny_standAt (wpAny_tryStmt_except (H.3 w _ _ trivial S fun w1 x1 S1 => ?_)))
  refine try_caught S1 he hfe rfl fun w2 x2 S2 e2 t => ?_
  rw [← e2] at t ⊢
  refine wpAny_handleBy_cons (codeAny_handlers_test ?_) (nomatch ·)
  cases S2.pk.1 g _ hg with
  | mk hs y dy ey =>
    have G2 := S2.2.3 ▸ S2.2.6.keeps S2.base
    have go : ∀ {R : Value → Shared → Prop} {E : Value → Shared → Prop} {M : Model} {A : Around}, R (.ref 849) w2.s → wpAny M A (eval (.Name (nm g) np) X.env) R E w2.s := fun {R E M A} h => by
      cases dy w2.ρ
      refine Name_function_global S2.kind hgl ?_ (debug_ne g)
      rcases ey with ey | ey
      · exact loadGlobal_global G2 ey h
      · exact loadGlobal_builtin G2 ey.1 (S2.2.4 ▸ S2.2.7.keeps S2.base) ey.2 h
    refine go ?_
    cases S2.pk.4 _ S2.K with
    | mk nm' q N bs sn sub ab col dd2 k0 k1 k2 k3 k5 mN hC hN hI no hf =>
      refine S2.at_ he fun o c1 D => ?_
      cases D with
      | mk vs c2 c3 c4 =>
        refine wpAny_excMatches_sub_self hC c1 c2 (by decide +kernel) ?_
        rw [if_pos rfl]
        dsimp only
        refine codeAny_handlers_suite_as ?_
        have S2h := S2.take he t
        refine setFlight_ok (X := X.held e (w2.ρ e)) S2h he fun w3 x3 S3 e3 _ => ?_
        refine wpAny_storeName_local hx S3.5 (fun h5 hn5 hs5 => ?_) (fnK (X := X.held e (w2.ρ e)) S3)
        have S5 := S3.put (t := w3.s.toks + 1) (x := x) (v := .ref e) (y := .ref (w2.ρ e)) ⟨congrArg (fun r : Nat → Addr => Value.ref (r e)) e3.symm, SS.at_lt he⟩ hn5 hs5
        refine (H2 (w2.ρ e)).3 _ _ _ trivial S5 fun w6 x6 S6 fl ha => ?_
        obtain ⟨y, rfl, dy⟩ := ha
        have S6 := S6.drop S.2 hn
        refine wpAny_nameGoes (hx : X.env.kindOf (nm x) = some .local) S6.5 (fnK S6) fun h7 m7 hn7 hs7 => ?_
        have S7 := reName (t := w6.s.toks + 1) (fr' := ⟨[], fr₂.cel⟩) S6 hn7 hs7 (fun z u hz => nomatch hz) rfl
        exact k _ ((x1.trans H.1.1 (x2.trans (Nat.le_refl _) (x3.trans (Nat.le_refl _) (Ex.trans .nms (Nat.le_refl _) x6)))).trans (H.1.trans (H2 0).1).1 .nms) S7 _ ⟨y, rfl, dy⟩
end
section
variable {it acc x i : Nat} {xs : List SV} {v : SV}
theorem append_ok {A : Around} {E : Value → Shared → Prop} {prog : Program} {wd : World} (S : At X fr σ w) (hi : σ.objs[i]? = some (.list xs)) (hn : small xs = true) {z : Value} (d : DV X.G.V σ.objs.length v w.ρ z) {Q : Value → Shared → Prop} (k : ∀ w', Ex X.outer σ.objs.length w w' → At X fr (σ.set i (.list (xs ++ [v]))) w' → Q .none w'.s) :
    wpAny (model prog wd) A (PySem.call (.builtin "list.append") [.ref (w.ρ i), z]) Q E w.s := by
  cases S.list hi with
  | mk vs m e L r => exact wpAny_list_append_plain ⟨m, e⟩ (fun h' hP' hs => by
      obtain ⟨n, e'⟩ := hP'
      exact k _ .hp (setL (t := w.s.toks) (zs := xs ++ [v]) (vs' := vs ++ [z]) (m := n) S hi e hs (e'.trans (by rw [List.push_toArray])) ⟨r.1.append (.cons d.1 .nil), fun v hv => (List.mem_append.mp hv).elim (r.2 v) fun hv => List.mem_singleton.mp hv ▸ d.2⟩)) (by rw [List.size_toArray, ← r.1.length]; exact small_len hn)
noncomputable def cTests (ifs : List Expr) (env : Env) : Sem Bool := forIn ifs true fun c r => if r = true then do let ok ← PySem.isTrue c env (eval c env); pure (ForInStep.yield ok) else pure (ForInStep.yield r)
noncomputable def ckCd (P : PT) (n : Nat) (c : CK) (d : Option IE) (ifs : List Expr) : Fo := match d with | none => .wh ifs.isEmpty .tt | some d => bn (one ifs) fun w => ckE P n c d w
theorem condT_ok (H : TsR X I N c) {d : Option IE} {ifs : List Expr} (h : (ckCd X.P N c d ifs).den X.G) : Ok2 (condT I X.hd fr d σ) fun b σ' => BT X fr σ (cTests ifs X.env) b σ' := by
  cases d with
  | none =>
    cases emp_of h.1
    exact .ret ⟨.refl _, trivial, fun w Q E _ S k => wpAny_pure (k w (.refl ..) S _ rfl)⟩
  | some d =>
    refine bnE h fun y e h => ?_
    cases one_of e
    exact (H d y fr σ h).mono fun r A => ⟨A.1, trivial, fun w Q E _ S k => wpAny_bind (m := _ >>= _) (wpAny_bind (A.3 w _ E trivial S fun w1 x1 S1 b e => wpAny_pure (wpAny_pure (k w1 x1 S1 b e))))⟩
noncomputable def TurnC (X : Cx) (elt te : Expr) (ifs : List Expr) (R : Result → Shared → Prop) (NE : Value → Shared → Prop) (J : Shared → Prop) (a b : Addr) (s : Shared) : Prop := wpAny X.M X.A (pyNext (.ref a)) (fun r s₁ => match r with
  | none => R (.ok .next) s₁
  | some v => wpAny X.M X.A (assign te X.env v) (fun _ s₂ => wpAny X.M X.A (cTests ifs X.env) (fun ok s₃ => if ok = true then wpAny X.M X.A (eval elt X.env) (fun y s₄ => wpAny X.M X.A (PySem.call (.builtin "list.append") [.ref b, y]) (fun _ s₅ => J s₅) NE s₄) NE s₃ else J s₃) NE s₂) NE s₁) NE s
inductive CI (X : Cx) (cs : List (Nat × Nat)) (σ : SS) (w : Wd) (L : Nat → SS → Option SS) (q : SS) (m : Nat) (s : Shared) : Prop | mk (w₀ : Wd) (σ₀ : SS) (hs : w₀.s = s) (x : Ex X.outer σ.objs.length w w₀) (le : σ.Le σ₀) (at_ : At X ⟨[], cs⟩ σ₀ w₀) (e : L m σ₀ = some q)
theorem At.noLoc (S : At X fr σ w) : At X ⟨[], fr.cel⟩ σ w := .mk S.1 S.2 S.3 S.4 S.5 S.6 S.7 (fun _ _ q => nomatch q) S.9 S.10 S.11 S.12 S.13 S.14 S.15 S.16 S.17 S.18 S.19 S.20
theorem comp_le {cs : List (Nat × Nat)} {elt : IE} {d : Option IE} (hc : ∀ fr σ, Ok2 (condT I X.hd fr d σ) fun _ σ' => σ.Le σ') (he : ∀ fr σ, Ok2 (I.ev elt X.hd fr σ) fun _ σ' => σ.Le σ') {n : Nat} : ∀ {σ : SS}, Ok (compN I X.hd ⟨[], cs⟩ elt x d it acc n σ) fun σ' => σ.Le σ' := by
  induction n with
  | zero => exact .nil
  | succ n ih =>
    exact fun {σ} => .b2 (next_ok (X := X) (fr := ⟨[], cs⟩)) fun ov σ1 N => by
      cases ov with
      | none => exact .ret N.1
      | some v => exact .b2 (hc _ σ1) fun t σ2 A => .cond (fun _ => .okE (he _ σ2) fun y σ3 B => .onL fun ys ha => .wh fun _ => ih.mono fun r D => ((N.1.trans A).trans B).trans ((leN ha nL).trans D)) fun _ => ih.mono fun r D => (N.1.trans A).trans D
theorem comp_turn {cs : List (Nat × Nat)} {elt : IE} {d : Option IE} {ee : Expr} {p : Pos} {ifs : List Expr} (hx : X.env.scope.names.lookup (nm x) = some .local) (hc : ∀ fr σ, Ok2 (condT I X.hd fr d σ) fun b σ' => BT X fr σ (cTests ifs X.env) b σ') (he : ∀ fr σ, Ok2 (I.ev elt X.hd fr σ) fun r σ' => VT X fr σ (eval ee X.env) r σ')
    {R : Result → Shared → Prop} {NE : Value → Shared → Prop} (hit : it < σ.objs.length) (hac : acc < σ.objs.length) (k : ∀ w', Ex X.outer σ.objs.length w w' → At X ⟨[], cs⟩ σ' w' → R (.ok .next) w'.s) (m : Nat) (s : Shared) (L : CI X cs σ w (fun n σ => compN I X.hd ⟨[], cs⟩ elt x d it acc n σ) σ' m s) :
    TurnC X ee (.Name (nm x) p) ifs R NE (fun s => ∃ j, j < m ∧ CI X cs σ w (fun n σ => compN I X.hd ⟨[], cs⟩ elt x d it acc n σ) σ' j s) (w.ρ it) (w.ρ acc) s := by
  cases L with
  | mk w₀ σ₀ h0 x₀ le₀ S₀ e₀ =>
    cases h0
    rw [← x₀.1 it hit]
    cases m with
    | zero => cases e₀
    | succ m =>
      refine Ok.at (φ := fun q => q = σ' → _) (x := compN I X.hd ⟨[], cs⟩ elt x d it acc (m + 1) σ₀) (.b2 (next_ok (X := X) (fr := ⟨[], cs⟩)) fun ov σ1 N => ?_) e₀ rfl
      cases ov with
      | none =>
        refine .ret fun q => N.2 w₀ _ _ S₀ fun o w1 x1 S1 ho => ?_
        cases ho
        cases q
        exact k w1 (x₀.trans le₀.1 x1) S1
      | some v =>
        have go : ∀ {b : Bool} {σ2 : SS} {J : Shared → Prop} {F : Shared → Prop}, BT X (SFr.put ⟨[], cs⟩ x v) σ1 (cTests ifs X.env) b σ2 → (∀ w2, Ex X.outer σ.objs.length w w2 → σ.Le σ2 → At X (SFr.put ⟨[], cs⟩ x v) σ2 w2 → (if b = true then wpAny X.M X.A (eval ee X.env) (fun y s₄ => wpAny X.M X.A (PySem.call (.builtin "list.append") [.ref (w.ρ acc), y]) (fun _ s₅ => J s₅) NE s₄) NE w2.s else J w2.s)) → TurnC X ee (.Name (nm x) p) ifs R NE J (w₀.ρ it) (w.ρ acc) w₀.s := fun {b σ2 J F} A h =>
          N.2 w₀ _ _ S₀ fun o w1 x1 S1 ho => by
            obtain ⟨y, rfl, dy⟩ := ho
            refine PyProof.Rows.assign_Name (wpAny_storeName_local hx S1.5 (fun h' hn hs => ?_) (fnK S1))
            have S2 := S1.put (t := w1.s.toks + 1) dy hn hs
            refine A.3 _ _ _ trivial S2 fun w3 x3 S3 c e => ?_
            cases e
            exact h w3 ((x₀.trans le₀.1 (x1.trans N.1.1 .nms)).trans (le₀.trans N.1).1 x3) ((le₀.trans N.1).trans A.1) S3
        refine .b2 (hc _ σ1) fun t σ2 A => .cond (fun ht => .okE (he _ σ2) fun y σ3 B => .onL fun ys ha => .wh fun hn => fun q hq hqe => ?_) fun ht => fun q hq hqe => ?_
        · cases ht
          refine go (F := fun _ => True) A fun w2 x2 le2 S2 => ?_
          rw [if_pos rfl]
          refine B.3 w2 _ _ trivial S2 fun w3 x3 S3 z dz => ?_
          have x03 := x2.trans le2.1 x3
          rw [← x03.1 acc hac]
          exact append_ok S3 ha hn dz fun w4 x4 S4 => ⟨m, Nat.lt_succ_self _, w4, _, rfl, x03.trans (le2.trans B.1).1 x4, (le2.trans B.1).trans (leN ha nL), S4.noLoc, hq.trans (congrArg some hqe)⟩
        · cases ht
          refine go (F := fun _ => True) A fun w2 x2 le2 S2 => ?_
          rw [if_neg (by decide)]
          exact ⟨m, Nat.lt_succ_self _, w2, σ2, rfl, x2, le2, S2.noLoc, hq.trans (congrArg some hqe)⟩
end
section
variable {csc : Scope} {cl : List (PySem.Str × Addr)} {Ca : Addr} {l x : Nat} {cs : List (Nat × Nat)} {fs : List Nat} {m0 : PySem.Str → Option Value}
theorem relabel_in {env : Env} (hk : env.scope.kind = .function) : relabel csc env = inScope csc env.scope := by
  unfold relabel inScope
  refine congrArg (fun l => ({ csc with names := l } : Scope)) (List.map_congr_left fun p _ => ?_)
  obtain ⟨n, k⟩ := p
  show (if (k == NameKind.free && env.scope.kind == ScopeKind.function && env.kindOf n == some NameKind.cell) = true then (n, NameKind.cell) else (n, k)) = if (k == NameKind.free && env.scope.names.lookup n == some NameKind.cell) = true then (n, NameKind.cell) else (n, k)
  rw [hk, show (ScopeKind.function == ScopeKind.function) = true from rfl, Bool.and_true]; rfl
@[reducible] noncomputable def Cx.cfr (X : Cx) (csc : Scope) (cl : List (PySem.Str × Addr)) (Ca : Addr) (m : PySem.Str → Option Value) : Cx := { X with env := compEnvC csc cl Ca X.env, lm := some m }
theorem EnvOK.cfr (E : EnvOK c X) (hk : X.env.scope.kind = .function) : EnvOK (c.into csc) (X.cfr csc cl Ca m0) := ⟨(relabel_in hk).trans (congrArg (inScope csc) E.1), E.2, E.3, fun h => nomatch h⟩
@[reducible] noncomputable def Wd.cin (w : Wd) (Ca : Addr) (h : Heap) (t : Nat) : Wd := { w with cl := clUp w.cl Ca .lo, s := { w.s with heap := h, toks := t }, me := fun _ => none }
theorem compIn {h' : Heap} {t : Nat} (S : At X fr σ w) (hnl : X.lm = none) (hkd : csc.kind = .function) (hC : w.s.heap.get? Ca = none) (hk : ∀ b o, w.s.heap.get? b = some o → h'.get? b = some o) (hn : h'.Ns Ca fun _ => none) (hcs : ∀ x i, lk cs x = some i → An (cl.lookup (nm x) = some (w.ρ i)) (i < σ.objs.length)) :
    At (X.cfr csc cl Ca w.m) ⟨[], cs⟩ σ (w.cin Ca h' t) := by
  have F := S.2
  have non := S.non hC
  have ne : ∀ {b c}, w.cl b = c → c ≠ .non → clUp w.cl Ca .lo b = c := fun h n => (clUp_ne fun q => n (h.symm.trans ((congrArg w.cl q).trans non))).trans h
  refine .mk (fun i so e => ?_) (.mk F.1 hkd F.3 F.4 F.5 F.6 F.7 F.8 F.9 F.10 F.11 F.12 F.13 F.14 F.15 F.16 (fun q => nomatch q) F.18) (fun b o e => have q := S.3 b o e; ⟨hk b o q.1, ne q.2 (nomatch ·)⟩) (ns_at S.4 fun o => hk _ o) hn (ne S.6 (nomatch ·)) clUp_eq (fun _ _ q => nomatch q) hcs (fun t ht => ?_) S.11 S.12 S.13
    (fun e he => by cases S.14 e he with | mk is h t => cases t with | mk o g T f => exact ⟨is, h, o, hk _ o g, T, f⟩) (fun m1 q => by cases q; rfl) S.16 S.17 S.18 S.19 fun b hb => ?_
  · have O := S.1 i so e
    exact ⟨OI.mv (n := σ.objs.length) (Ch := fun _ => False) (fun b o e _ => hk b o e) (fun _ _ f _ => f.elim) (fun T t => by cases t with | mk o g f c => exact ⟨o, hk T o g, f, ne c (nomatch ·)⟩) id rfl (fun _ _ => rfl) O.3 O.1, ne O.2 (nomatch ·), O.3⟩
  · have q := S.10 t ht
    exact ⟨q.1.same (Ch := fun _ => False) (fun b o e _ => hk b o e) (fun _ _ f _ => f.elim) id, ne q.2 (nomatch ·)⟩
  · by_cases q : b = Ca
    · cases q; exact ns_ex hn
    · obtain ⟨o, e⟩ := S.20 b fun z => hb ((clUp_ne q).trans z)
      exact ⟨o, hk b o e⟩
theorem compOut {h₁ : Heap} {t : Nat} {fr₁ : SFr} {w₁ : Wd} (S : At X fr σ w) (hnl : X.lm = none) (S' : At (X.cfr csc cl Ca w.m) fr₁ σ' w₁) (x : Ex X.outer σ.objs.length (w.cin Ca h₁ t) w₁) (le : σ.Le σ') {h' : Heap} (hs : Heap.SameBut Ca w₁.s.heap h') :
    ∃ w₂, Ex X.outer σ.objs.length w w₂ ∧ At X fr σ' w₂ ∧ w₂.s = { w₁.s with heap := h' } ∧ w₂.ρ = w₁.ρ := by
  have cC : w₁.cl Ca = .lo := S'.7
  have hk : ∀ b o, w₁.s.heap.get? b = some o → ¬ b = Ca → h'.get? b = some o := fun b o e n => (hs.2 b n).trans e
  have soft : ∀ b o, b = Ca → w₁.s.heap.get? b = some o → Soft o := fun b o q e => ns_soft S'.5 o ((congrArg w₁.s.heap.get? q).symm.trans e)
  have nC : ∀ {b c}, w₁.cl b = c → c ≠ .lo → ¬ b = Ca := fun h n q => n (h.symm.trans ((congrArg w₁.cl q).trans cC))
  have ne : ∀ {b c}, w₁.cl b = c → c ≠ .lo → clUp w₁.cl Ca .non b = c := fun h n => (clUp_ne (nC h n)).trans h
  have hm : w₁.m = w.m := S'.15 w.m rfl
  have hL : X.env.locals = X.L := S.2.17 hnl
  have hme : w.me = w.m := ns_unique (hL ▸ S.5) S.4
  have nL : h'.Ns X.L w.m := hm ▸ ns_at S'.4 fun o e => hk _ o e (nC S'.6 (nomatch ·))
  have cL := ne S'.6 (nomatch ·)
  have lc : X.lc = .fr := by unfold Cx.lc; rw [hnl]
  refine ⟨⟨w₁.k, w₁.ρ, { w₁.s with heap := h' }, clUp w₁.cl Ca .non, w.m, w.me⟩, ⟨x.1, x.2, x.3, x.4, x.5⟩, ?_, rfl, rfl⟩
  refine .mk (fun i so e => ?_) S.2 (fun b o e => have q := S'.3 b o e; ⟨hk b o q.1 (nC q.2 (nomatch ·)), ne q.2 (nomatch ·)⟩) nL (hL.symm ▸ hme.symm ▸ nL) cL (lc.symm ▸ hL.symm ▸ cL) (fun z v q => by cases S.8 z v q with | mk l y e d => exact ⟨SV.lt_le le.1 l, y, e, d.ext x.1 l⟩)
    (fun z i q => have y := S.9 z i q; ⟨y.1.trans (congrArg some (x.1 i y.2).symm), Nat.lt_of_lt_of_le y.2 le.1⟩) (fun t ht => have q := S'.10 t ht; ⟨q.1.same (Ch := fun b => b = Ca) hk soft (nC q.2 (nomatch ·)), ne q.2 (nomatch ·)⟩) S'.11 S'.12 S'.13 (fun e he => ?_) (fun m1 q => nomatch hnl.symm.trans q) S'.16 S'.17 S'.18 S'.19 fun b hb => ?_
  · have O := S'.1 i so e
    exact ⟨OI.mv (n := σ'.objs.length) (Ch := fun b => b = Ca) hk soft (fun T t => by cases t with | mk o g f c => exact ⟨o, hk T o g (nC c (nomatch ·)), f, ne c (nomatch ·)⟩) (nC O.2 (nomatch ·)) rfl (fun _ _ => rfl) O.3 O.1, ne O.2 (nomatch ·), O.3⟩
  · cases S'.14 e he with
    | mk is h t =>
      obtain ⟨D, d, hi⟩ := is
      cases t with | mk o g T f => exact ⟨⟨D, d, hi⟩, h, o, hk _ o g (nC (S'.1 e _ hi).2 (nomatch ·)), T, f⟩
  · by_cases q : b = Ca
    · exact absurd ((congrArg (clUp w₁.cl Ca .non) q).trans clUp_eq) hb
    · obtain ⟨o, e⟩ := S'.20 b fun z => hb ((clUp_ne q).trans z)
      exact ⟨o, hk b o e q⟩
end
section
variable {csc : Scope} {l x : Nat} {cs : List (Nat × Nat)} {fs : List Nat}
theorem iterSelf {o so : SObj} {n : Nat} (S : At X fr σ w) (hi : σ.objs[n]? = some so) (ho : overO l o = some so) {Q : Value → Shared → Prop} {E : Value → Shared → Prop} (k : Q (.ref (w.ρ n)) w.s) : wpAny X.M X.A (pyIter (.ref (w.ρ n))) Q E w.s := S.at_ hi fun ob g D => by
  cases o with
  | list => cases ho; cases D with | mk c d => exact wpAny_pyIter_listiter ⟨ob, g, c, d⟩ k
  | rng => cases ho; exact wpAny_pyIter_rangeiter (D ▸ g) k
  | _ => cases ho
theorem compOut_ok {Ca : Addr} {cl : List (PySem.Str × Addr)} {h₁ : Heap} {t : Nat} {fr₁ : SFr} {w₁ : Wd} {Q : Value → Shared → Prop} {E : Value → Shared → Prop} {n : Nat} (S : At X fr σ w) (hnl : X.lm = none) (S' : At (X.cfr csc cl Ca w.m) fr₁ σ' w₁) (x : Ex X.outer σ.objs.length (w.cin Ca h₁ t) w₁) (le : σ.Le σ')
    (k : ∀ w₂, Ex X.outer σ.objs.length w w₂ → At X fr σ' w₂ → Q (.ref (w₂.ρ n)) w₂.s) : compPost X.M X.A E none Q (.ref (w₁.ρ n)) Ca (.ok .next) w₁.s :=
  ⟨w₁.me, S'.5, fun h' hs => by
    obtain ⟨w2, x2, S2, e2, e3⟩ := compOut S hnl S' x le hs
    have g := k w2 x2 S2
    rw [e2, e3] at g
    exact g⟩
theorem ev_comp {elt : IE} {d : Option IE} {ee iter : Expr} {ifs : List Expr} {tp p : Pos} {o so : SObj} {n : Nat} (mi : plB iter = true) (CO : compOK csc x fs = true) (hnl : X.lm = none) (hf : frees fr fs = some cs) (H : HV X fr σ (eval iter X.env) (.ref l) σ₁) (hl : σ₁.objs[l]? = some o) (ho : overO l o = some so)
    (hc : ∀ cl Ca m fr σ, Ok2 (condT I X.hd fr d σ) fun b σ' => BT (X.cfr csc cl Ca m) fr σ (cTests ifs (compEnvC csc cl Ca X.env)) b σ') (he : ∀ cl Ca m fr σ, Ok2 (I.ev elt X.hd fr σ) fun r σ' => VT (X.cfr csc cl Ca m) fr σ (eval ee (compEnvC csc cl Ca X.env)) r σ')
    (e : compN I X.hd ⟨[], cs⟩ elt x d σ₁.objs.length (σ₁.objs.length + 1) n ((σ₁.new so).new (.list [])) = some σ') : HV X fr σ (eval (.ListComp ee [⟨.Name (nm x) tp, iter, ifs, 0⟩] csc p) X.env) (.ref (σ₁.objs.length + 1)) σ' := by
  have c1 := an_bool CO
  have c2 := an_bool c1.2
  have c3 := an_bool c2.2
  have c4 := an_bool c3.2
  have kd : csc.kind = .function := of_decide_eq_true c2.1
  have le2 := comp_le (X := X.cfr csc [] 0 fun _ => none) (fun fr σ => (hc [] 0 (fun _ => none) fr σ).mono fun r A => A.1) (fun fr σ => (he [] 0 (fun _ => none) fr σ).mono fun r A => A.1) _ e
  have le1 : σ₁.Le ((σ₁.new so).new (.list [])) := SS.Le.new.trans .new
  have le := (H.1.trans le1).trans le2
  have l1 : (σ₁.new so).objs.length = σ₁.objs.length + 1 := SS.len_new
  have l2 : ((σ₁.new so).new (.list [])).objs.length = σ₁.objs.length + 2 := SS.len_new.trans (congrArg (· + 1) l1)
  have hit : σ₁.objs.length < ((σ₁.new so).new (.list [])).objs.length := l2 ▸ Nat.lt_succ_of_lt (Nat.lt_succ_self _)
  have hac : σ₁.objs.length + 1 < ((σ₁.new so).new (.list [])).objs.length := l2 ▸ Nat.lt_succ_self _
  refine ⟨le, trivial, fun w Q E _ S k => ?_⟩
  rw [eval_ListComp]
  refine wpAny_comprehension_free (use := none) rfl (fold_no mi) (closure_ok S hf c4.2) kd (fun y hy => of_decide_eq_true (List.all_eq_true.mp c3.1 y hy)) (H.3 w _ E trivial S fun w1 x1 S1 y d1 => ?_)
  cases d1.1
  refine overO_ok hl ho w1 _ E S1 fun w2 x2 S2 => ?_
  refine wpAny_newObj_type ?_
  have S3 := new (t := w2.s.toks) (so := .list []) S2 (h' := w2.s.heap.push { cls := .type "list", dict := none, data := .seq ([] : List Value).toArray }) (fun b o e => Heap.get?_push_of_some _ e) none_size (Heap.get?_push_size _ rfl) (.mk [] _ .nil) trivial nil_all
  have x3 : Ex X.outer (σ₁.new so).objs.length w2 (w2.al (σ₁.new so).objs.length w2.s.heap.objs.size (w2.s.heap.push { cls := .type "list", dict := none, data := .seq ([] : List Value).toArray }) w2.s.toks) := .al
  have eac : Value.ref w2.s.heap.objs.size = .ref ((w2.al (σ₁.new so).objs.length w2.s.heap.objs.size (w2.s.heap.push { cls := .type "list", dict := none, data := .seq ([] : List Value).toArray }) w2.s.toks).ρ (σ₁.objs.length + 1)) := (congrArg Value.ref ((congrArg (grow w2.ρ (σ₁.new so).objs.length w2.s.heap.objs.size) l1.symm).trans grow_eq)).symm
  have eit : w2.ρ σ₁.objs.length = (w2.al (σ₁.new so).objs.length w2.s.heap.objs.size (w2.s.heap.push { cls := .type "list", dict := none, data := .seq ([] : List Value).toArray }) w2.s.toks).ρ σ₁.objs.length := (x3.1 _ (l1 ▸ Nat.lt_succ_self _)).symm
  rw [eac, eit]
  generalize hw3 : w2.al (σ₁.new so).objs.length w2.s.heap.objs.size (w2.s.heap.push { cls := .type "list", dict := none, data := .seq ([] : List Value).toArray }) w2.s.toks = w3 at S3 x3
  have es : ({ w2.s with heap := w2.s.heap.push { cls := .type "list", dict := none, data := .seq ([] : List Value).toArray } } : Shared) = w3.s := by rw [← hw3]
  show wpAny X.M X.A _ _ E { w2.s with heap := w2.s.heap.push { cls := .type "list", dict := none, data := .seq ([] : List Value).toArray } }
  rw [es]
  have x03 : Ex X.outer σ.objs.length w w3 := x1.trans H.1.1 (x2.trans SS.Le.new.1 x3)
  refine wpAny_newFunctionEnv (fun y hy => of_decide_eq_true (List.all_eq_true.mp c1.1 y hy)) (fun y hy => absurd hy List.not_mem_nil) (fun h₁ hns₁ hsb₁ => ?_) kd
  have hkeep : ∀ b o, w3.s.heap.get? b = some o → h₁.get? b = some o := fun b o e => hsb₁.extBut b o (Nat.ne_of_lt (Heap.lt_size e)) (Heap.get?_push_of_some _ e)
  have S4 := compIn (t := w3.s.toks + 0) (csc := csc) (cl := cellsOf w.ρ cs) (cs := cs) S3 hnl kd none_size hkeep hns₁ fun z i hz => by
    have hi := (S.9 _ _ ((frees_keys _ hf).2 _ (lk_mem hz))).2
    exact ⟨(lookup_cells hz).trans (congrArg some (x03.1 i hi).symm), Nat.lt_of_lt_of_le hi (H.1.trans le1).1⟩
  have loop := codeAny_compLoop_tests (prog := X.G.prog) (w := X.G.w) (A := X.A) (R := compPost X.M X.A E none Q (.ref (w3.ρ (σ₁.objs.length + 1))) w3.s.heap.objs.size) (elt := ee) (target := .Name (nm x) tp) (iter := iter) (ifs := ifs) (scope := csc) (pos := p) (it := .ref (w3.ρ σ₁.objs.length)) (acc := .ref (w3.ρ (σ₁.objs.length + 1))) (env := compEnvC csc (cellsOf w.ρ cs) w3.s.heap.objs.size X.env)
    (CI (X.cfr csc (cellsOf w.ρ cs) w3.s.heap.objs.size w3.m) cs ((σ₁.new so).new (.list [])) (w3.cin w3.s.heap.objs.size h₁ (w3.s.toks + 0)) (fun n σ => compN I X.hd ⟨[], cs⟩ elt x d σ₁.objs.length (σ₁.objs.length + 1) n σ) σ')
    (comp_turn (X := X.cfr csc (cellsOf w.ρ cs) w3.s.heap.objs.size w3.m) (lookup_relabel_local (isKd_of c4.1)) (hc _ _ _) (he _ _ _) hit hac fun w5 x5 S5 => by
      have g := compOut_ok (E := E) (Q := Q) (n := σ₁.objs.length + 1) S3 hnl S5 x5 le2 fun w6 x6 S6 => k w6 (x03.trans (H.1.trans le1).1 x6) S6 _ ⟨rfl, Nat.lt_of_lt_of_le hac le2.1⟩
      rw [x5.1 _ hac] at g
      exact g) n ⟨_, _, rfl, .refl .., .refl _, S4, e⟩ (fun _ => rfl)
  refine codeAny_compStart_list loop (iterSelf (w := w3.cin w3.s.heap.objs.size h₁ (w3.s.toks + 0)) S4 (l := l) (o := o) (so := so) (n := σ₁.objs.length) ?_ ho loop)
  exact (SS.new_lt (l1 ▸ Nat.lt_succ_self _)).trans SS.new_at
end
end
end Mine
namespace Mine
open PySem PySem.W PyProof.Rows PySem.Calls
noncomputable def Good {α : Type} (N : Nat) (P : α → Prop) : KasT α → Prop
  | .ret a => P a
  | .ask i j k => i < N ∧ j < N ∧ ∀ b, Good N P (k b)
theorem Good.mono {α : Type} {N : Nat} {P Q : α → Prop} (h : ∀ a, P a → Q a) : ∀ {t : KasT α}, Good N P t → Good N Q t
  | .ret _, g => h _ g
  | .ask _ _ _, ⟨a, b, c⟩ => ⟨a, b, fun x => (c x).mono h⟩
theorem Good.bind {α β : Type} {N : Nat} {P : α → Prop} {Q : β → Prop} {f : α → KasT β} (h : ∀ a, P a → Good N Q (f a)) : ∀ {t : KasT α}, Good N P t → Good N Q (t.bind f)
  | .ret _, g => h _ g
  | .ask _ _ _, ⟨a, b, c⟩ => ⟨a, b, fun x => (c x).bind h⟩
noncomputable def PN (N : Nat) (p : Array Nat) : Prop := p.toList.Perm (List.range N)
theorem PN.get {N : Nat} {p : Array Nat} (h : PN N p) (hN : 0 < N) (i : Nat) : p.getD i 0 < N := by
  by_cases q : i < p.size
  · have : p.getD i 0 = p[i] := by simp [Array.getD, q]
    rw [this]
    have m : p[i] ∈ p.toList := Array.getElem_mem_toList ..
    exact List.mem_range.mp (h.mem_iff.mp m)
  · have : p.getD i 0 = 0 := by simp [Array.getD, q]
    rw [this]; exact hN
theorem PN.perm {N : Nat} {p q : Array Nat} (h : PN N p) (e : q.Perm p) : PN N q := (Array.perm_iff_toList_perm.mp e).trans h
theorem PN.rev {N : Nat} {p : Array Nat} (h : PN N p) (i j : Nat) : PN N (kas_rev p i j) := h.perm (mirror_perm ..)
section
variable {N : Nat} {p : Array Nat}
theorem good_asc (hN : 0 < N) (h : PN N p) : ∀ f n, Good N (fun _ => True) (kas_asc p f n)
  | 0, n => trivial
  | f + 1, n => ⟨h.get hN _, h.get hN _, fun b => by
    dsimp only
    split
    · trivial
    · exact good_asc hN h f _⟩
theorem good_desc (hN : 0 < N) : ∀ f (p : Array Nat) n q, PN N p → Good N (fun r => PN N r.1) (kas_desc f p n q)
  | 0, p, n, q, h => h
  | f + 1, p, n, q, h => ⟨h.get hN _, h.get hN _, fun b => by
    dsimp only
    split
    · split
      · exact good_desc hN f _ _ _ (h.rev _ _)
      · exact good_desc hN f _ _ _ h
    · exact ⟨h.get hN _, h.get hN _, fun b => by
        dsimp only
        split
        · exact h
        · exact good_desc hN f _ _ _ h⟩⟩
theorem good_tail3 (hN : 0 < N) (h : PN N p) (n r : Nat) : Good N (fun r => PN N r.2) (kas_tail3 n r p) := by
  unfold kas_tail3
  exact Good.bind (P := fun _ => True) (Q := fun r : Nat × Array Nat => PN N r.2) (fun a _ => by show PN N (kas_rev p 0 n); exact h.rev _ _) (good_asc hN (h.rev _ _) _ _)
theorem good_descPart (hN : 0 < N) (h : PN N p) (n r : Nat) : Good N (fun r => PN N r.2) (kas_descPart n r p) := by
  unfold kas_descPart
  refine Good.bind (P := fun r => PN N r.1) (fun a ha => ?_) (good_desc hN _ _ _ _ h)
  split
  · exact good_tail3 hN (ha.rev _ _) _ _
  · exact good_tail3 hN ha _ _
theorem good_count (hN : 0 < N) (h : PN N p) (r : Nat) : Good N (fun r => PN N r.2) (kas_count r p) := by
  unfold kas_count
  refine Good.bind (P := fun _ => True) (fun n _ => ?_) (good_asc hN h _ _)
  split
  · exact h
  · split
    · refine ⟨h.get hN _, h.get hN _, fun b => ?_⟩
      dsimp only
      split
      · exact h
      · exact good_descPart hN (h.rev _ _) _ _
    · exact good_descPart hN h _ _
theorem good_place (hN : 0 < N) (h : PN N p) (k : Nat) : ∀ f l r, Good N (fun _ => True) (kas_place p k f l r)
  | 0, l, r => trivial
  | f + 1, l, r => by
    unfold kas_place
    split
    · trivial
    · exact ⟨h.get hN _, h.get hN _, fun b => by
        dsimp only
        split
        · exact good_place hN h k f _ _
        · exact good_place hN h k f _ _⟩
theorem good_bin (hN : 0 < N) : ∀ f (p : Array Nat) k, PN N p → Good N (PN N) (kas_bin f p k)
  | 0, p, k, h => h
  | f + 1, p, k, h => by
    unfold kas_bin
    exact Good.bind (P := fun _ => True) (fun l _ => good_bin hN f _ _ (h.perm (bubble_perm ..))) (good_place hN h k _ _ _)
theorem good_sort (hN : 0 < N) : Good N (PN N) (kas_sort N) := by
  unfold kas_sort
  refine Good.bind (P := fun r => PN N r.2) (fun r hr => ?_) (good_count hN (List.Perm.refl _) _)
  split
  · exact good_bin hN _ _ _ hr
  · exact hr
end
theorem kasWp_good {α : Type} {N : Nat} {P : α → Prop} {cmp : Nat → Nat → (Bool → Shared → Prop) → Shared → Prop} {Q : α → Shared → Prop} {s : Shared} (hc : ∀ i j (C : Bool → Shared → Prop) u, i < N → j < N → (∀ b u', C b { s with toks := u' }) → cmp i j C { s with toks := u })
    (hq : ∀ a u, P a → Q a { s with toks := u }) : ∀ (t : KasT α), Good N P t → ∀ u, t.kasWp cmp Q { s with toks := u }
  | .ret a, g, u => hq a u g
  | .ask i j k, ⟨a, b, c⟩, u => hc i j _ u a b fun x u' => kasWp_good hc hq (k x) (c x) u'
noncomputable def pairObj (p : Int × PySem.Str) (t u : Tok) (m : Nat) : Obj := { cls := .type "tuple", data := .seq #[.int p.1 t, .str p.2 u] m }
section
variable {prog : Program} {w : World} {A : Around} {E : Value → Shared → Prop} {s : Shared} {h₀ : Heap} {L D : Addr} {m : PySem.Str → Option Value} {news : List (Addr × Obj)}
theorem lt_pair {x y : Addr} {p q : Int × PySem.Str} {t u t' u' : Tok} {k k' : Nat} (hx : s.heap.get? x = some (pairObj p t u k)) (hy : s.heap.get? y = some (pairObj q t' u' k')) {C : Bool → Shared → Prop} (h : ∀ b, C b s) : wpAny (model prog w) A (keyLt' (tuples' true) (.ref x) (.ref y)) C E s := by
  refine kat_lt hx rfl hy rfl (kat_cons (wpAny_eqBool_int (kat_go (fun _ => kat_yes (kat_cons (wpAny_eqBool_str ?_))) fun _ => kat_no (oneLt_int (h _)))))
  exact kat_go (fun _ => kat_yes (kat_nil (h _))) fun _ => kat_no (kat_one _ _ (lt_str (h _)))
noncomputable def IsP (news : List (Addr × Obj)) (p : Int × PySem.Str) (v : Value) : Prop := ∃ b t u k, v = .ref b ∧ (b, pairObj p t u k) ∈ news
theorem All2.of_get {α β : Type} {R : α → β → Prop} (da : α) (db : β) : ∀ {is : List Nat} {l : List α} {m : List β}, All2 R l m → (∀ i ∈ is, i < l.length) → All2 R (is.map fun i => l.getD i da) (is.map fun i => m.getD i db)
  | [], _, _, _, _ => .nil
  | i :: is, l, m, h, hi => by
    refine .cons ?_ (All2.of_get da db h fun j hj => hi j (.tail _ hj))
    obtain ⟨b, h1, h2⟩ := h.get (List.getElem?_eq_getElem (hi i (.head _)))
    have e1 : l.getD i da = l[i]'(hi i (.head _)) := by rw [List.getD_eq_getElem?_getD, List.getElem?_eq_getElem (hi i (.head _))]; rfl
    have e2 : m.getD i db = b := by rw [List.getD_eq_getElem?_getD, h1]; rfl
    show R (l.getD i da) (m.getD i db)
    rw [e1, e2]; exact h2
theorem map_range_getD {α : Type} (l : List α) (d : α) : (List.range l.length).map (fun i => l.getD i d) = l := PyProof.Rows.range_getD l d
theorem All2.memR {α β : Type} {R : α → β → Prop} : ∀ {l : List α} {m : List β}, All2 R l m → ∀ v ∈ m, ∃ p ∈ l, R p v
  | _, _, .nil, _, h => nomatch h
  | _, _, .cons a r, v, h => by
    rcases List.mem_cons.mp h with rfl | h
    · exact ⟨_, .head _, a⟩
    · obtain ⟨p, hp, q⟩ := r.memR v h
      exact ⟨p, .tail _ hp, q⟩
theorem sort_pairs {vs : List Value} {ps : List (Int × PySem.Str)} {n : Nat} (F : Fr h₀ L s.heap m) (N : News h₀ L s.heap ((D, listOf vs.toArray n) :: news)) (hD : ∀ q ∈ news, q.1 ≠ D) (hp : All2 (IsP news) ps vs) (h64 : vs.length < 64) {Q : Value → Shared → Prop}
    (k : ∀ h' c tk ps' vs', ps'.Perm ps → All2 (IsP news) ps' vs' → Fr h₀ L h' m → News h₀ L h' ((D, listOf (List.toArray vs') c) :: news) → Q .none { s with heap := h', toks := tk }) : wpAny (model prog w) A (PySem.call (.builtin "list.sort") [.ref D]) Q E s := by
  have hlen := hp.length
  by_cases h2 : 2 ≤ vs.length
  · refine kat_lsort F N (.head hD) rfl h2 h64 fun e1 h' F' N' => ?_
    have tup : ∀ {ps : List (Int × PySem.Str)} {vs : List Value}, All2 (IsP news) ps vs → ∃ fs : List Value, KatTups h' vs fs ∧ fs.length = vs.length ∧ ∀ v ∈ fs, Looks (model prog w) h' (typeOf v) (.type "int") := by
      intro ps vs hp
      induction hp with
      | nil => exact ⟨[], .nil, rfl, fun _ h => nomatch h⟩
      | @cons p v _ _ a r ih =>
        obtain ⟨b, t, u, k, rfl, hb⟩ := a
        obtain ⟨fs, h1, h2, h3⟩ := ih
        refine ⟨.int p.1 t :: fs, .cons (N' _ (.tail _ hb)).1 rfl rfl rfl h1, by simp [h2], fun v hv => ?_⟩
        rcases List.mem_cons.mp hv with rfl | hv
        · exact .now
        · exact h3 v hv
    obtain ⟨fs, t1, t2, t3⟩ := tup hp
    refine kat_kind t1 (by omega) t3 rfl ?_
    rw [show ((Value.type "int" : Value) != Value.type "tuple") = true from rfl]
    have G0 := good_sort (N := vs.length) (by omega)
    refine kasWp_good (s := { s with heap := h' }) (u := s.toks) (N := vs.length) (P := PN vs.length) (fun i j C u hi hj hC => ?_) (fun p u hP => ?_) _ G0
    · obtain ⟨a, ha⟩ : ∃ a, vs[i]? = some a := ⟨_, List.getElem?_eq_getElem hi⟩
      obtain ⟨b, hb⟩ : ∃ b, vs[j]? = some b := ⟨_, List.getElem?_eq_getElem hj⟩
      have ea : vs.getD i .none = a := by rw [List.getD_eq_getElem?_getD, ha]; rfl
      have eb : vs.getD j .none = b := by rw [List.getD_eq_getElem?_getD, hb]; rfl
      obtain ⟨pa, _, a', t, u, k, rfl, qa⟩ := hp.memR a (List.mem_of_getElem? ha)
      obtain ⟨pb, _, b', t', u', k', rfl, qb⟩ := hp.memR b (List.mem_of_getElem? hb)
      unfold kas_ask
      rw [ea, eb]
      exact lt_pair (s := { s with heap := h', toks := _ }) (N' _ (.tail _ qa)).1 (N' _ (.tail _ qb)).1 fun x => hC x _
    · have hi : ∀ i ∈ p.toList, i < ps.length := fun i hi => by rw [hlen]; exact List.mem_range.mp (hP.mem_iff.mp hi)
      refine KasFin.intro (s := { s with heap := h', toks := u }) F' N' (.head hD) fun h'' c F'' N'' => ?_
      dsimp only at N''
      refine k h'' c _ (p.toList.map fun i => ps.getD i (0, PySem.Str.ofString "")) _ ?_ (All2.of_get (0, PySem.Str.ofString "") Value.none hp hi) F'' N''
      have := hP.map fun i => ps.getD i (0, PySem.Str.ofString "")
      rw [← hlen, map_range_getD] at this
      exact this
  · have nz := N _ (.head _)
    have ho : s.heap.get? D = some (seqObj "list" vs.toArray n) := nz.1
    refine wpAny_call_entry slot_list_sort ⟨_, nz.1, rfl⟩ entry_list_sort ?_ (args_list_sort _)
    have s1 := Heap.SameBut.update s.heap D (Obj.mapSeq fun _ => (#[] : Array Value))
    obtain ⟨e1, ho1⟩ : ∃ e1, (s.heap.update D (Obj.mapSeq fun _ => (#[] : Array Value))).get? D = some (seqObj "list" #[] e1) := ⟨_, get?_update_seq ho fun _ => #[]⟩
    have hle : (List.toArray vs).size ≤ sizeLine := by rw [List.size_toArray, sizeLine_eq]; omega
    rw [list_sort_plain]
    refine wpAny_bind (listItems_at ho rfl ?_)
    refine wpAny_bind (listUpdate_at ho rfl ?_ hle (Nat.zero_le _))
    refine wpAny_bind (seqEpoch_at ho1 rfl ?_)
    refine wpAny_bind (wpAny_newTuple ?_ (by show vs.length ≤ _; rw [sizeLine_eq]; omega))
    refine wpAny_bind (wpAny_newList ?_ (Nat.zero_le _))
    refine wpAny_holding ?_
    have F3 : Fr h₀ L (((s.heap.update D (Obj.mapSeq fun _ => (#[] : Array Value))).push (seqObj "tuple" vs.toArray 0)).push (seqObj "list" #[] 0)) m := ((kas_fr F s1 nz.2.1 nz.2.2).push _).push _
    have N2 : News h₀ L (((s.heap.update D (Obj.mapSeq fun _ => (#[] : Array Value))).push (seqObj "tuple" vs.toArray 0)).push (seqObj "list" #[] 0)) news :=
      (kas_news (fun q hq => N q (.tail _ hq)) s1 hD).grown fun b x e => Heap.get?_push_of_some _ (Heap.get?_push_of_some _ e)
    have hoD : (((s.heap.update D (Obj.mapSeq fun _ => (#[] : Array Value))).push (seqObj "tuple" vs.toArray 0)).push (seqObj "list" #[] 0)).get? D = some (seqObj "list" #[] e1) := Heap.get?_push_of_some _ (Heap.get?_push_of_some _ ho1)
    show wpAny (model prog w) _ _ _ _ { s with heap := ((s.heap.update D (Obj.mapSeq fun _ => (#[] : Array Value))).push (seqObj "tuple" vs.toArray 0)).push (seqObj "list" #[] 0) }
    generalize ((s.heap.update D (Obj.mapSeq fun _ => (#[] : Array Value))).push (seqObj "tuple" vs.toArray 0)).push (seqObj "list" #[] 0) = H at F3 N2 hoD
    dsimp only
    have hn2 : vs.toArray.size < 2 := by rw [List.size_toArray]; omega
    rw [if_pos hn2, if_pos hn2]
    refine wpAny_bind (wpAny_pure (wpAny_bind (wpAny_pure ?_)))
    dsimp only
    have hout : (arrOf (SortSt.mk' general' (vs.toArray.zip vs.toArray) #[] 7 none)).map (·.2) = vs.toArray := by
      show (vs.toArray.zip vs.toArray).map (·.2) = _
      rw [Array.map_snd_zip (by simp)]
    rw [hout]
    refine wpAny_bind (seqEpoch_at hoD rfl ?_)
    refine wpAny_bind (listUpdate_at hoD rfl ?_ (Nat.zero_le _) (Nat.le_succ_of_le hle))
    simp only [bne_self_eq_false, Bool.false_eq_true, if_false]
    have s2 := Heap.SameBut.update H D (Obj.mapSeq fun _ => List.toArray vs)
    obtain ⟨c2, hc2⟩ : ∃ c2, (H.update D (Obj.mapSeq fun _ => List.toArray vs)).get? D = some (seqObj "list" (List.toArray vs) c2) := ⟨_, get?_update_seq hoD fun _ => List.toArray vs⟩
    refine wpAny_pure ⟨_, rfl, k _ c2 s.toks ps vs (List.Perm.refl _) hp (kas_fr F3 s2 nz.2.1 nz.2.2) fun q hq => ?_⟩
    rcases List.mem_cons.mp hq with rfl | hq
    · exact ⟨hc2, nz.2.1, nz.2.2⟩
    · exact kas_news N2 s2 hD q hq
end
end Mine
namespace Mine
open PySem PySem.W PyProof.Rows PySem.Calls
section
variable {X : Cx} {I : In} {c : CK} {N : Nat} {fr fr' : SFr} {σ σ' σ₁ σ₂ σ₃ : SS} {w w' : Wd} {V : Val} {ρ : Nat → Addr} {G : Gl} {P : PT}
theorem bltSorted : bltV n_sorted = .builtin "sorted" := by decide +kernel
theorem kdxo {lo : Addr} {news : List (Addr × Obj)} {C : List Value → List (Addr × Obj) → Prop} {ps : List ((Tok → Value) × Value)} : ∀ {vs : List Value} {tups : List (Addr × Obj)},
    (∀ (xs : List (Addr × Tok)) tups', All2 (fun (p : (Tok → Value) × Value) (x : Addr × Tok) => (x.1, ({ cls := .type "tuple", data := .seq #[p.1 x.2, p.2] } : Obj)) ∈ tups') ps xs → (∀ q ∈ tups, q ∈ tups') → C (vs ++ xs.map fun x => .ref x.1) tups') → KdxOpen lo news ps vs tups C := by
  induction ps with
  | nil => exact fun {vs tups} h => .nil (List.append_nil vs ▸ h [] tups .nil fun _ h => h)
  | cons p r ih =>
    exact fun {vs tups} h => .cons fun a t _ _ _ => ih fun xs tups' h1 h2 => by
      have g := h ((a, t) :: xs) tups' (.cons (h2 _ (.head _)) h1) fun q hq => h2 q (.tail _ hq)
      rw [List.append_assoc]
      exact g
theorem isP_of {news tups : List (Addr × Obj)} {kvs : List (Int × Value)} {ps : List (Int × PySem.Str)} (h : All2 IK ps kvs) : ∀ {xs : List (Addr × Tok)}, All2 (fun (p : (Tok → Value) × Value) (x : Addr × Tok) => (x.1, ({ cls := .type "tuple", data := .seq #[p.1 x.2, p.2] } : Obj)) ∈ tups) (kvs.map fun p => (kyVal (.int p.1), p.2)) xs → All2 (IsP (tups ++ news)) ps (xs.map fun x => .ref x.1) := by
  induction h with
  | nil => exact fun h2 => by cases h2; exact .nil
  | @cons e kv l m' a r ih =>
    intro xs h2
    cases h2 with
    | cons b r2 =>
      obtain ⟨k, v⟩ := kv
      have e1 : k = e.1 := a.1
      obtain ⟨t, e2⟩ := a.2
      cases e1
      cases e2
      exact .cons ⟨_, _, t, _, rfl, List.mem_append_left _ b⟩ (ih r2)
theorem sorted_items {E : Value → Shared → Prop} (S : At X fr σ w) (hh : X.A.handled = none) {i j : Nat} (hi : σ.objs[i]? = some (.adict j)) {Q : Value → Shared → Prop} (k : ∀ a h' tk, At X fr (σ.new (.apairs j)) (w.al σ.objs.length a h' tk) → Q (.ref a) { w.s with heap := h', toks := tk }) :
    wpAny X.M X.A (PySem.call (.builtin "dict.items") [.ref (w.ρ i)]) (fun v s' => wpAny X.M X.A (PySem.call (.builtin "sorted") [v]) Q E s') E w.s := by
  refine S.at_ hi fun o e D => ?_
  cases D with
  | mk kvs D hA hne hn => cases D with
    | mk des ep kk p nd =>
      have ho : Obj.IsDictOf (PySem.intKind X.G.prog X.G.w) (dictOf des ep) kvs := ⟨des.toArray, ep, ⟨rfl, rfl, rfl⟩, rfl, kk, p, nd⟩
      have xL : w.ρ i ≠ X.L := fun q => nomatch (S.1 i _ hi).2.symm.trans ((congrArg w.cl q).trans S.6)
      refine kdx_view (knd := PySem.intKind X.G.prog X.G.w) S.Fr_ AN.news (mem_AN S hi e) ho (S.notSys hi) fun v h1 F1 N1 lt1 => ?_
      have k1 := AN.keep S F1 N1 (fun p hp => .tail _ hp)
      have nv := N1 _ (.head _)
      refine kdx_sortedN (knd := PySem.intKind X.G.prog X.G.w) (enc := PyData.int) hh F1 (AN.news (h₀ := w.k) (L := X.L) (h := h1)) (AN.mem.mpr nv) (AN.mem.mpr ⟨k1 _ _ e xL, xL, notKept S hi⟩) ho (Nat.le_trans hn (by decide)) (fun _ _ h => Value.isInt_shape h) rfl fun lo _ => kdxo fun xs tups hx _ B h2 tk lt2 F2 N2 => ?_
      rw [List.nil_append] at N2
      have isp := isP_of (news := AN w.k X.L h1) (hA.mono fun _ _ h => ⟨h.1, h.2⟩) hx
      refine sort_pairs F2 N2 (fun q hq => Nat.ne_of_lt (lt2 q hq)) isp (Nat.lt_of_le_of_lt (Nat.le_trans (Nat.le_of_eq (isp.length.symm.trans hA.length)) hn) (by decide)) fun h3 c tk3 ps' vs' hpm isp' F3 N3 => ?_
      have hk : ∀ b o, w.s.heap.get? b = some o → b ≠ X.L → h3.get? b = some o := fun b o eb hb => by
        cases q : w.k.get? b with
        | some o' => exact Option.some.inj ((S.3 b o' q).1.symm.trans eb) ▸ F3.keep b o' q
        | none => exact (N3 _ (.tail _ (List.mem_append_right _ (AN.mem.mpr ⟨k1 b o eb hb, hb, q⟩)))).1
      have nB := N3 _ (.head _)
      have hB : w.s.heap.get? B = none := by
        cases q : w.s.heap.get? B with
        | none => rfl
        | some oB => exact absurd (lt2 (B, oB) (List.mem_append_right _ (AN.mem.mpr ⟨k1 _ _ q nB.2.1, nB.2⟩))) (Nat.lt_irrefl _)
      exact k B h3 tk3 (newF S hk F3.ns hB nB.1 ⟨_, _, rfl⟩ ⟨ps', hpm, isp'.mono fun p v h => by
        obtain ⟨b, t, u, k', rfl, hb⟩ := h
        exact .mk b t u k' rfl (N3 _ (.tail _ hb)).1⟩ trivial)
theorem ev_sorted {ed : Expr} {i j : Nat} {xp ap p2 p : Pos} (hn : X.hd = none) (md : plB ed = true) (hp : ap.endLine = p2.line) (H0 : HV X fr σ (eval (.Name (nm n_sorted) xp) X.env) (.blt n_sorted) σ) (H : HV X fr σ (eval ed X.env) (.ref i) σ₁) (hi : σ₁.objs[i]? = some (.adict j)) :
    HV X fr σ (eval (.Call (.Name (nm n_sorted) xp) [.Call (.Attribute ed (nm n_items) ap) [] [] p2] [] p) X.env) (.ref σ₁.objs.length) (σ₁.new (.apairs j)) :=
  ⟨H.1.trans .new, trivial, fun w Q E _ S k => by
    refine wpAny_Call_ofName (H0.3 w _ _ trivial S fun w1 x1 S1 y d1 => ?_)
    cases d1.1.trans bltSorted
    have pm : plB (.Call (.Attribute ed (nm n_items) ap) [] [] p2) = true := rfl
    refine callWith_of (P := KpOK X.M (.builtin "sorted")) rfl (fun _ x => x) (evalArgs_plain (spliced_more ?_ (pl_star pm)))
    rw [arm_eval_Call, pl_base md]
    refine wpAny_bind (H.3 w1 _ _ trivial S1 fun w2 x2 S2 z d2 => wpAny_bind (wpAny_standAt ?_))
    cases d2.1
    unfold methodCall
    rw [show methodCallForm (([] : List Expr).length + ([] : List Keyword).length) (backTo p2 (starEach [] X.env)) (backToKw p2 (keywordEach [] X.env)) = true from rfl]
    refine wpAny_bind (wpAny_holding ?_)
    unfold calleeOf
    rw [if_pos rfl, show nm n_items = "items" by decide +kernel]
    refine S2.at_ hi fun o e D => ?_
    cases D with
    | mk kvs D hA hne hln => cases D with
      | mk des ep kk pp nd =>
        refine kdl_method (knd := PySem.intKind X.G.prog X.G.w) PySem.F.slot_dict_items PySem.F.type_dict_items AN.news (mem_AN S2 hi e) ⟨des.toArray, ep, ⟨rfl, rfl, rfl⟩, rfl, kk, pp, nd⟩ ?_
        unfold methodCallPos
        rw [if_pos (by rw [hp, beq_self_eq_true]; rfl)]
        refine wpAny_bind (wpAny_pure (callWith_of (P := KpOK X.M (.builtin "dict.items")) rfl (fun _ x => x) (evalArgs_kw (G := X.G) (rE := fun _ _ _ => .ff) (c := ⟨sc0, "", none, false⟩) (l := []) (kl := []) (fun h => h.elim) ⟨rfl, trivial⟩ ⟨rfl, rfl, rfl⟩ (spliced_none (wpAny_pure ⟨kp_plain nr_b, ?_⟩)))))
        refine wpAny_mono (sorted_items S2 (S.2.18 hn) hi fun a h' tk S' => ?_) (fun v s' h => spliced_none ⟨kp_plain nr_b, h⟩) fun _ _ x => x
        exact k _ ((x1.trans (Nat.le_refl _) x2).trans H.1.1 .al) S' (.ref a) ⟨congrArg Value.ref grow_eq.symm, Nat.lt_of_lt_of_eq (Nat.lt_succ_self _) SS.len_new.symm⟩⟩
section
variable {k : Nat}
inductive Ih (k : Nat) (X : Cx) (c : CK) : Prop | mk (C : Cs k) (hy : Hy X) (hk : fu k + 2 ≤ X.n) (EO : EnvOK c X)
theorem Ih.clm (H : Ih k X c) : Clm k X := H.1 X H.2 (Nat.le_of_succ_le (Nat.le_of_succ_le H.3))
theorem okv_ok {φ : Rs → SS → Prop} {v : SV} {σ : SS} (h : φ (.ok v) σ) : Ok2 (okv v σ) φ := .ret h
theorem ev1_ok (H : Ih k X c) {n : Nat} {e : IE} {x : Expr} (h : (ckE X.P (n + 1) c e x).den X.G) : Ok2 (ev1 X.P (run X.P k) X.hd fr e σ) fun r σ' => VT X fr σ (eval x X.env) r σ' := by
  have m := h.1
  have h := h.2.2
  have Ev := H.clm.1 n c H.4
  have Ts := H.clm.2 n c H.4
  have sc := H.4.1
  have hk1 := Nat.le_of_succ_le H.3
  cases e with
  | bad => exact h.elim
  | none => exact tgE (C := fun x => Ok2 (ev1 X.P (run X.P k) X.hd fr .none σ) fun r σ' => VT X fr σ (eval x X.env) r σ') h fun _ => okv_ok ev_none
  | tru => exact tgE (C := fun x => Ok2 (ev1 X.P (run X.P k) X.hd fr .tru σ) fun r σ' => VT X fr σ (eval x X.env) r σ') h fun _ => okv_ok ev_bool
  | fls => exact tgE (C := fun x => Ok2 (ev1 X.P (run X.P k) X.hd fr .fls σ) fun r σ' => VT X fr σ (eval x X.env) r σ') h fun _ => okv_ok ev_bool
  | int i => exact tgE (C := fun x => Ok2 (ev1 X.P (run X.P k) X.hd fr (.int i) σ) fun r σ' => VT X fr σ (eval x X.env) r σ') h fun h => okv_ok ((of_decide_eq_true h.1 : i = (vw x).i) ▸ ev_int)
  | str s => exact tgE (C := fun x => Ok2 (ev1 X.P (run X.P k) X.hd fr (.str s) σ) fun r σ' => VT X fr σ (eval x X.env) r σ') h fun h => okv_ok (show VT X fr σ (eval (.Constant (.str (vw x).s) (vw x).m (vw x).p) X.env) (.ok (.str s)) σ from (isNm_of h.1 : nm s = (vw x).s) ▸ ev_str)
  | loc y => exact ckNmE (C := fun x => Ok2 (ev1 X.P (run X.P k) X.hd fr (.loc y) σ) fun r σ' => VT X fr σ (eval x X.env) r σ') h fun hk p => .bind fun v hv => okv_ok (ev_loc (sc ▸ hk) hv)
  | cel y => exact ckNmE (C := fun x => Ok2 (ev1 X.P (run X.P k) X.hd fr (.cel y) σ) fun r σ' => VT X fr σ (eval x X.env) r σ') h fun hk p => .bind fun i hi => .onC fun v hv => okv_ok (ev_cel (sc ▸ hk) hi hv)
  | fre y => exact ckNmE (C := fun x => Ok2 (ev1 X.P (run X.P k) X.hd fr (.fre y) σ) fun r σ' => VT X fr σ (eval x X.env) r σ') h fun hk p => .bind fun i hi => .onC fun v hv => okv_ok (ev_fre (sc ▸ hk) hi hv)
  | glob y => exact ckNmE (C := fun x => Ok2 (ev1 X.P (run X.P k) X.hd fr (.glob y) σ) fun r σ' => VT X fr σ (eval x X.env) r σ') h fun hk p => .bind fun v hv => okv_ok (ev_glob (sc ▸ hk) hv)
  | attr o a => exact attrE (C := fun x => Ok2 (ev1 X.P (run X.P k) X.hd fr (.attr o a) σ) fun r σ' => VT X fr σ (eval x X.env) r σ') h fun ha y p h => .okE (Ev o y fr σ h) fun o σ1 A => .then (x := getAttr X.P σ1 o a) (getAttr_ok ha) fun v B => okv_ok (ev_attr ha (ck_pl h).1 A B)
  | sub o i => exact tgE (C := fun x => Ok2 (ev1 X.P (run X.P k) X.hd fr (.sub o i) σ) fun r σ' => VT X fr σ (eval x X.env) r σ') h fun h => .okE (Ev o _ fr σ h.1) fun ov σ1 A => .okE (Ev i _ fr σ1 h.2) fun iv σ2 B => .then (x := getItem σ2 ov iv) getItem_ok fun v D => okv_ok (ev_sub (ck_pl h.2).1 A B D)
  | call f args =>
    refine tgE (C := fun x => Ok2 (ev1 X.P (run X.P k) X.hd fr (.call f args) σ) fun r σ' => VT X fr σ (eval x X.env) r σ') h fun h => ?_
    have ek := emp_of h.1
    show Ok2 (ev1 X.P (run X.P k) X.hd fr (.call f args) σ) fun r σ' => VT X fr σ (eval (.Call (vw x).y (vw x).es (vw x).ks (vw x).p) X.env) r σ'
    rw [ek]
    refine tgE (C := fun y => (ckE X.P n c f y).den X.G → Ok2 (ev1 X.P (run X.P k) X.hd fr (.call f args) σ) fun r σ' => VT X fr σ (eval (.Call y (vw x).es [] (vw x).p) X.env) r σ') h.2 (fun h' hf => .okE (Ev f _ fr σ hf) fun fv σ1 A => .b2 (evs_ok Ev h'.2) fun vs σ2 B => (H.clm.3 fv vs [] fr σ2).mono fun r D => ev_call h'.2 A B D) h.2.2.1
  | mcall o a args kws =>
    refine tgE (C := fun x => Ok2 (ev1 X.P (run X.P k) X.hd fr (.mcall o a args kws) σ) fun r σ' => VT X fr σ (eval x X.env) r σ') h fun h => ?_
    refine tgE (C := fun y => decide ((vw (vw x).y).p.endLine = (vw x).p.line) = true → Ok2 (ev1 X.P (run X.P k) X.hd fr (.mcall o a args kws) σ) fun r σ' => VT X fr σ (eval (.Call y (vw x).es (vw x).ks (vw x).p) X.env) r σ') h (fun h hp => ?_) h.2.2.2.1
    have ha : a < nAttr := Nat.le_of_ble_eq_true h.1
    have hn : (vw x).es.length + (vw x).ks.length < 29 := Nat.le_of_ble_eq_true h.2.2.2.1
    have ho := h.2.2.2.2.1
    have ha' := h.2.2.2.2.2.1
    have hk' := h.2.2.2.2.2.2
    refine .okE (Ev o _ fr σ ho) fun ov σ1 A => .then (x := meth X.P σ1 ov a) meth_ok fun mm M => .b2 (evs_ok (pos := (vw x).p) Ev ha') fun vs σ2 B => .b2 (evks_ok (pos := (vw x).p) Ev hk') fun ks σ3 D => (H.clm.3 mm.1 (mm.2 ++ vs) ks fr σ3).mono fun r F => ?_
    obtain ⟨i, e, M⟩ := M
    cases e
    show VT X fr σ (eval (.Call (.Attribute (vw (vw x).y).y (vw (vw x).y).s (vw (vw x).y).p) (vw x).es (vw x).ks (vw x).p) X.env) r.1 r.2
    exact (isNm_of h.2.1 : nm a = (vw (vw x).y).s) ▸ ev_mcall (ck_pl ho).1 ha' hk' hn (of_decide_eq_true hp) A (gm_ok ha M) B D F
  | lam j =>
    refine tgE (C := fun x => Ok2 (ev1 X.P (run X.P k) X.hd fr (.lam j) σ) fun r σ' => VT X fr σ (eval x X.env) r σ') h fun h => bnE h fun a ea h => bnE h fun cc ec h => .bind fun c2 e2 => .bind fun cs hcs => okv_ok ?_
    cases ec.symm.trans e2
    exact ev_lam h.2.2 H.4.2 (H.4.3 a ea) (emp_of (an_bool h.1).1) (emp_of (an_bool h.1).2) h.2.1 hcs
  | cmp o l r =>
    refine tgE (C := fun x => Ok2 (ev1 X.P (run X.P k) X.hd fr (.cmp o l r) σ) fun r σ' => VT X fr σ (eval x X.env) r σ') h fun h => bnE h fun op eo h => bnE h fun z ez h => .b2 (cmpE_ok H.1 H.2 hk1 Ev h.2.1 h.2.2) fun b σ' K => okv_ok ?_
    obtain ⟨a, b', σ₁, σ₂, A, B, D⟩ := K
    show VT X fr σ (eval (.Compare (vw x).y (vw x).ops (vw x).es (vw x).p) X.env) (.ok (.bool b)) σ'
    rw [one_of eo, one_of ez, ← (of_decide_eq_true h.1 : opOf o = op)]
    exact ev_cmp (ck_pl h.2.2).1 A B D
  | bop b l =>
    have go : ∀ {es : List Expr} {p : Pos}, (ckEs (ckE X.P n) c l es).den X.G → Ok2 (ev1 X.P (run X.P k) X.hd fr (.bop b l) σ) fun r σ' => VT X fr σ (eval (.BoolOp (boolOf b) es p) X.env) r σ' := fun {es p} h => by
      cases l with
      | nil => exact .nil
      | cons e l => exact ckEs_cons (C := fun es => Ok2 (ev1 X.P (run X.P k) X.hd fr (.bop b (e :: l)) σ) fun r σ' => VT X fr σ (eval (.BoolOp (boolOf b) es p) X.env) r σ') h fun y ys h1 h2 => .okE (Ev e y fr σ h1) fun v σ1 A => .b2 (bop_ok H.1 H.2 hk1 Ev h2 A) fun r σ2 B => okv_ok B
    cases b with
    | true => exact tgE (C := fun x => Ok2 (ev1 X.P (run X.P k) X.hd fr (.bop true l) σ) fun r σ' => VT X fr σ (eval x X.env) r σ') h fun h => go h
    | false => exact tgE (C := fun x => Ok2 (ev1 X.P (run X.P k) X.hd fr (.bop false l) σ) fun r σ' => VT X fr σ (eval x X.env) r σ') h fun h => go h
  | not e => exact tgE (C := fun x => Ok2 (ev1 X.P (run X.P k) X.hd fr (.not e) σ) fun r σ' => VT X fr σ (eval x X.env) r σ') h fun h => .okE (Ev e _ fr σ h) fun v σ1 A => .b2 (truth_ok (fr := fr) H.1 H.2 hk1) fun b σ2 T => okv_ok (ev_not A T)
  | bin o l r =>
    refine tgE (C := fun x => Ok2 (ev1 X.P (run X.P k) X.hd fr (.bin o l r) σ) fun r σ' => VT X fr σ (eval x X.env) r σ') h fun h => .okE (Ev l _ fr σ h.2.1) fun a σ1 A => .okE (Ev r _ fr σ1 h.2.2) fun b σ2 B => .b2 (bin_ok (X := X) (fr := fr)) fun v σ3 D => okv_ok ?_
    show VT X fr σ (eval (.BinOp (vw x).y (vw x).op (vw x).z (vw x).p) X.env) _ _
    exact (of_decide_eq_true h.1 : binOf o = (vw x).op) ▸ ev_bin A B D
  | dict ks vs =>
    refine tgE (C := fun x => Ok2 (ev1 X.P (run X.P k) X.hd fr (.dict ks vs) σ) fun r σ' => VT X fr σ (eval x X.env) r σ') h fun h => ?_
    cases ks with
    | nil =>
      refine .wh fun hv => okv_ok ?_
      cases emp_of hv
      show VT X fr σ (eval (.Dict (vw x).eo (vw x).es (vw x).p) X.env) _ _
      rw [emp_of h.1.1, ckEs_nil h.2]
      exact ev_dict0
    | cons e ks =>
      refine .b2 (evp_ok Ev h.1 h.2) fun es σ1 D => .onD fun z hz => .wh fun hh => okv_ok ?_
      have a1 := an_bool hh
      have a2 := an_bool a1.2
      cases emp_of a1.1
      refine ev_dict (fun q => ?_) D hz a2.2 (Nat.le_of_ble_eq_true a2.1)
      have hc := h.1
      rw [q] at hc
      exact hc.elim
  | list l => exact tgE (C := fun x => Ok2 (ev1 X.P (run X.P k) X.hd fr (.list l) σ) fun r σ' => VT X fr σ (eval x X.env) r σ') h fun h => .b2 (evs_ok Ev h) fun vs σ1 A => .wh fun hn => okv_ok (ev_list A hn)
  | tup l => exact tgE (C := fun x => Ok2 (ev1 X.P (run X.P k) X.hd fr (.tup l) σ) fun r σ' => VT X fr σ (eval x X.env) r σ') h fun h => .b2 (evs_ok Ev h) fun vs σ1 A => .wh fun hn => okv_ok (ev_tup A hn)
  | ite t a b =>
    exact tgE (C := fun x => Ok2 (ev1 X.P (run X.P k) X.hd fr (.ite t a b) σ) fun r σ' => VT X fr σ (eval x X.env) r σ') h fun h => .b2 (Ts t _ fr σ h.1) fun b' σ1 A => by
      cases b' with
      | true => exact .okE (Ev a _ fr σ1 h.2.1) fun v σ2 B => okv_ok (ev_ite A B)
      | false => exact .okE (Ev b _ fr σ1 h.2.2) fun v σ2 B => okv_ok (ev_ite A B)
  | srt d =>
    refine tgE (C := fun x => Ok2 (ev1 X.P (run X.P k) X.hd fr (.srt d) σ) fun r σ' => VT X fr σ (eval x X.env) r σ') h fun h => ?_
    have ek := emp_of h.1
    show Ok2 (ev1 X.P (run X.P k) X.hd fr (.srt d) σ) fun r σ' => VT X fr σ (eval (.Call (vw x).y (vw x).es (vw x).ks (vw x).p) X.env) r σ'
    rw [ek]
    refine ckNmE (C := fun y => Ok2 (ev1 X.P (run X.P k) X.hd fr (.srt d) σ) fun r σ' => VT X fr σ (eval (.Call y (vw x).es [] (vw x).p) X.env) r σ') h.2.1 fun hg xp => bnE h.2.2 fun z ez h => ?_
    rw [one_of ez]
    refine tgE (C := fun z => Ok2 (ev1 X.P (run X.P k) X.hd fr (.srt d) σ) fun r σ' => VT X fr σ (eval (.Call (.Name (nm n_sorted) xp) [z] [] (vw x).p) X.env) r σ') h fun h => ?_
    show Ok2 (ev1 X.P (run X.P k) X.hd fr (.srt d) σ) fun r σ' => VT X fr σ (eval (.Call (.Name (nm n_sorted) xp) [.Call (vw z).y (vw z).es (vw z).ks (vw z).p] [] (vw x).p) X.env) r σ'
    rw [emp_of (an_bool h.1).1, emp_of (an_bool h.1).2]
    refine tgE (C := fun y => (decide ((vw (vw z).y).p.endLine = (vw z).p.line)) = true → Ok2 (ev1 X.P (run X.P k) X.hd fr (.srt d) σ) fun r σ' => VT X fr σ (eval (.Call (.Name (nm n_sorted) xp) [.Call y [] [] (vw z).p] [] (vw x).p) X.env) r σ') h.2 (fun h hp => ?_) h.2.2.2.1
    refine .wh fun hn => .bind fun s hs => .wh fun hb => .okR (Ev d _ fr σ h.2.2) fun i σ1 A => .onA fun j hj => okv_ok ?_
    cases SV.eqb_of hb
    show VT X fr σ (eval (.Call (.Name (nm n_sorted) xp) [.Call (.Attribute (vw (vw z).y).y (vw (vw z).y).s (vw (vw z).y).p) [] [] (vw z).p] [] (vw x).p) X.env) _ _
    exact (isNm_of h.1 : nm n_items = (vw (vw z).y).s) ▸ ev_sorted (non_of hn) (ck_pl h.2.2).1 (of_decide_eq_true hp) (ev_glob (sc ▸ hg) hs) A hj
  | comp elt y it d fs =>
    refine tgE (C := fun x => Ok2 (ev1 X.P (run X.P k) X.hd fr (.comp elt y it d fs) σ) fun r σ' => VT X fr σ (eval x X.env) r σ') h fun h => bnE h fun g eg h => ?_
    show Ok2 (ev1 X.P (run X.P k) X.hd fr (.comp elt y it d fs) σ) fun r σ' => VT X fr σ (eval (.ListComp (vw x).y (vw x).gs (vw x).sc (vw x).p) X.env) r σ'
    rw [one_of eg]
    obtain ⟨tg', iter, ifs, as⟩ := g
    have b0 := an_bool h.1
    have top := H.4.4 (not_t b0.1)
    have kd : X.env.scope.kind = .function := (congrArg Scope.kind sc).trans (of_decide_eq_true b0.2)
    refine tgE (C := fun t => Ok2 (ev1 X.P (run X.P k) X.hd fr (.comp elt y it d fs) σ) fun r σ' => VT X fr σ (eval (.ListComp (vw x).y [⟨t, iter, ifs, as⟩] (vw x).sc (vw x).p) X.env) r σ') h.2 fun h => ?_
    show Ok2 (ev1 X.P (run X.P k) X.hd fr (.comp elt y it d fs) σ) fun r σ' => VT X fr σ (eval (.ListComp (vw x).y [⟨.Name (vw tg').s (vw tg').p, iter, ifs, as⟩] (vw x).sc (vw x).p) X.env) r σ'
    rw [← (isNm_of h.1 : nm y = (vw tg').s), (of_decide_eq_true h.2.2.1 : as = 0)]
    have hi := h.2.2.2.1
    have he := h.2.2.2.2.1
    have hc : (ckCd X.P n (c.into (vw x).sc) d ifs).den X.G := by cases d <;> exact h.2.2.2.2.2
    have E' : ∀ cl Ca m, EnvOK (c.into (vw x).sc) (X.cfr (vw x).sc cl Ca m) := fun cl Ca m => H.4.cfr kd
    have hk0 := Nat.le_of_succ_le hk1
    refine .okR (Ev it iter fr σ hi) fun l σ1 A => .bind fun cs hcs => .on fun o ho => .bind fun so hso => .bind fun σ2 e2 => okv_ok ?_
    exact ev_comp (ck_pl hi).1 h.2.1 top.2 hcs A ho hso (fun cl Ca m fr σ => condT_ok (X := X.cfr (vw x).sc cl Ca m) ((H.1 (X.cfr (vw x).sc cl Ca m) H.2 hk0).2 n _ (E' cl Ca m)) hc) (fun cl Ca m fr σ => (H.1 (X.cfr (vw x).sc cl Ca m) H.2 hk0).1 n _ (E' cl Ca m) elt _ fr σ he) e2
theorem tst1_ok (H : Ih k X c) {n : Nat} {e : IE} {x : Expr} (h : (ckE X.P (n + 1) c e x).den X.G) : Ok2 (tst1 X.P (run X.P k) X.hd fr e σ) fun b σ' => BT X fr σ (PySem.isTrue x X.env (eval x X.env)) b σ' := by
  have m := h.1
  have m2 : plT x = ieT e := beq_iff_eq.mp h.2.1
  have Ev := H.clm.1 (n + 1) c H.4
  have Ev' := H.clm.1 n c H.4
  have Ts := H.clm.2 n c H.4
  have hk1 := Nat.le_of_succ_le H.3
  have plain : plT x = true → Ok2 (okE ((run X.P k).ev e X.hd fr σ) fun v σ => truth X.P (run X.P k) X.hd v σ) fun b σ' => BT X fr σ (PySem.isTrue x X.env (eval x X.env)) b σ' := fun q => .okE (Ev e x fr σ h) fun v σ1 A => (truth_ok (fr := fr) H.1 H.2 hk1).mono fun r T => tst_val m q A T
  have h := h.2.2
  cases e with
  | not e => exact tgE (C := fun x => Ok2 (tst1 X.P (run X.P k) X.hd fr (.not e) σ) fun b σ' => BT X fr σ (PySem.isTrue x X.env (eval x X.env)) b σ') h fun h => .b2 (Ts e _ fr σ h) fun b σ1 A => .ret (tst_not A)
  | bop b l =>
    cases b with
    | true => exact tgE (C := fun x => Ok2 (tst1 X.P (run X.P k) X.hd fr (.bop true l) σ) fun b σ' => BT X fr σ (PySem.isTrue x X.env (eval x X.env)) b σ') h fun h => (tsb_ok (b := true) Ts h).mono fun r A => tst_bop A
    | false => exact tgE (C := fun x => Ok2 (tst1 X.P (run X.P k) X.hd fr (.bop false l) σ) fun b σ' => BT X fr σ (PySem.isTrue x X.env (eval x X.env)) b σ') h fun h => (tsb_ok (b := false) Ts h).mono fun r A => tst_bop A
  | cmp o l r =>
    refine tgE (C := fun x => Ok2 (tst1 X.P (run X.P k) X.hd fr (.cmp o l r) σ) fun b σ' => BT X fr σ (PySem.isTrue x X.env (eval x X.env)) b σ') h fun h => bnE h fun op eo h => bnE h fun z ez h => (cmpE_ok H.1 H.2 hk1 Ev' h.2.1 h.2.2).mono fun q K => ?_
    obtain ⟨a, b', σ₁, σ₂, A, B, D⟩ := K
    show BT X fr σ (PySem.isTrue (.Compare (vw x).y (vw x).ops (vw x).es (vw x).p) X.env (eval (.Compare (vw x).y (vw x).ops (vw x).es (vw x).p) X.env)) q.1 q.2
    rw [one_of eo, one_of ez, ← (of_decide_eq_true h.1 : opOf o = op)]
    exact tst_cmp (ck_pl h.2.2).1 A B D
  | ite => exact .nil
  | _ => exact plain m2
end
theorem sws_sc {es : List Expr} {x : Expr} {l : Nat} {env env' : Env} (h : env.scope = env'.scope) : swapsWithSole es x l env = swapsWithSole es x l env' := by
  unfold swapsWithSole
  split
  · unfold swapsWith Env.blockKind Env.kindOf; rw [h]
  · rfl
theorem sst_sc {es : List Expr} {x : Expr} {env env' : Env} (h : env.scope = env'.scope) : swappedStores es x env = swappedStores es x env' := by
  unfold swappedStores Env.blockKind Env.kindOf; rw [h]
theorem annOf_nil : ∀ {l : List Arg} {env : Env}, (l.all fun x => x.annotation.isNone) = true → annotationsOf l env = []
  | [], _, _ => rfl
  | ⟨n, none, p⟩ :: r, env, h => by
    rw [List.all_cons, Bool.and_eq_true] at h
    show annotationsOf r env = []
    exact annOf_nil h.2
  | ⟨n, some e, p⟩ :: r, env, h => by simp at h
theorem noAnn_of {a : Arguments} (h : noAnn a = true) (env : Env) : annTrees a none env = [] := by
  unfold noAnn at h
  simp only [Bool.and_eq_true, List.isEmpty_iff, Option.isNone_iff_eq_none] at h
  obtain ⟨po, ar, va, ko, kd, kw, df⟩ := a
  obtain ⟨rfl, rfl, rfl, rfl, h5⟩ := h
  show annotationsOf (ar ++ [] ++ [] ++ [] ++ []) env ++ [] = []
  simp only [List.append_nil]
  exact annOf_nil h5
section
variable {k : Nat}
theorem exec1_ok (H : Ih k X c) (hc : c.cmp = false) (hfe : X.env = X.fenv) (feed : ∀ it z y (v : SW), (ckFeed (ckE X.P 40) c it z y v).den X.G → Ok3 (exFeed (run X.P k) X.hd it z y fr σ) fun fl fr' σ' => XT X fr σ (PySem.exec (.For v.y v.z v.a v.b v.p) X.env) fl fr' σ')
    (copy : ∀ z y u q (v : SW), (ckCopy c z y u q v).den X.G → Ok3 (exCopy X.hd z y u q fr σ) fun fl fr' σ' => XT X fr σ (PySem.exec (.For v.y v.z v.a v.b v.p) X.env) fl fr' σ') {n : Nat} {s : IS} {x : Stmt} (h : (ckS X.P (n + 1) c s x).den X.G) : Ok3 (exec1 X.P (run X.P k) X.hd s fr σ) fun fl fr' σ' => XT X fr σ (PySem.exec x X.env) fl fr' σ' := by
  have Ev := H.clm.1 40 c H.4
  have Ts := H.clm.2 40 c H.4
  have Es := H.clm.5 n c H.4 hc hfe
  have sc := H.4.1
  have top := H.4.4 hc
  have env_sc : ∀ (a b : List Expr → Expr → Nat → Env → Sem Bool), True := fun _ _ => trivial
  cases s with
  | bad => exact .nil
  | pass => exact sgE (C := fun x => Ok3 (exec1 X.P (run X.P k) X.hd .pass fr σ) fun fl fr' σ' => XT X fr σ (PySem.exec x X.env) fl fr' σ') h fun _ => .ret ex_pass
  | expr e =>
    refine sgE (C := fun x => Ok3 (exec1 X.P (run X.P k) X.hd (.expr e) fr σ) fun fl fr' σ' => XT X fr σ (PySem.exec x X.env) fl fr' σ') h fun h => .b2 (Ev e _ fr σ h.2) fun r σ1 A => ?_
    have g := ex_expr (p := (sw x).p) (ck_pl h.2).1 h.1 A
    cases r with
    | ok v => exact .ret g
    | exc z => exact .ret g
  | ret e =>
    cases e with
    | none =>
      refine sgE (C := fun x => Ok3 (exec1 X.P (run X.P k) X.hd (.ret none) fr σ) fun fl fr' σ' => XT X fr σ (PySem.exec x X.env) fl fr' σ') h fun h => .ret ?_
      show XT X fr σ (PySem.exec (.Return (sw x).oy (sw x).p) X.env) _ _ _
      rw [non_of h.1]
      exact ex_ret0
    | some e =>
      refine sgE (C := fun x => Ok3 (exec1 X.P (run X.P k) X.hd (.ret (some e)) fr σ) fun fl fr' σ' => XT X fr σ (PySem.exec x X.env) fl fr' σ') h fun h => bnE h fun y ey h => .b2 (Ev e y fr σ h) fun r σ1 A => ?_
      have g := ex_ret (p := (sw x).p) A
      rw [← ey] at g
      cases r with
      | ok v => exact .ret g
      | exc z => exact .ret g
  | ife t a b =>
    refine sgE (C := fun x => Ok3 (exec1 X.P (run X.P k) X.hd (.ife t a b) fr σ) fun fl fr' σ' => XT X fr σ (PySem.exec x X.env) fl fr' σ') h fun h => .b2 (Ts t _ fr σ h.1) fun b' σ1 A => ?_
    cases b' with
    | true => exact (execs_ok Es h.2.1).mono fun r B => ex_if (b := true) A B
    | false => exact (execs_ok Es h.2.2).mono fun r B => ex_if (b := false) A B
  | for_ t it b =>
    refine sgE (C := fun x => Ok3 (exec1 X.P (run X.P k) X.hd (.for_ t it b) fr σ) fun fl fr' σ' => XT X fr σ (PySem.exec x X.env) fl fr' σ') h fun h => ?_
    show Ok3 (exec1 X.P (run X.P k) X.hd (.for_ t it b) fr σ) fun fl fr' σ' => XT X fr σ (PySem.exec (.For (sw x).y (sw x).z (sw x).a (sw x).b (sw x).p) X.env) fl fr' σ'
    rw [emp_of h.1]
    have ht := h.2.2.1
    have hi := h.2.2.2.1
    have hb := h.2.2.2.2
    have htg : ∀ a v, letOwnedTupleGo (sw x).y (.ref a) v = pure () := tgE (C := fun y => ∀ a v, letOwnedTupleGo y (.ref a) v = pure ()) h.2 fun _ _ _ => rfl
    exact .okR (Ev it _ fr σ hi) fun l σ1 A => .on fun o ho => .bind fun so hso => fun q e => ex_for (ck_pl hi).1 hfe htg A ho hso (fun v fr σ => store_ok H.4 Ev ht) (fun fr σ => execs_ok Es hb) e
  | feed it z y => exact sgE (C := fun x => Ok3 (exec1 X.P (run X.P k) X.hd (.feed it z y) fr σ) fun fl fr' σ' => XT X fr σ (PySem.exec x X.env) fl fr' σ') h fun h => feed it z y (sw x) h
  | copy z y u q => exact sgE (C := fun x => Ok3 (exec1 X.P (run X.P k) X.hd (.copy z y u q) fr σ) fun fl fr' σ' => XT X fr σ (PySem.exec x X.env) fl fr' σ') h fun h => copy z y u q (sw x) h
  | raise e =>
    refine sgE (C := fun x => Ok3 (exec1 X.P (run X.P k) X.hd (.raise e) fr σ) fun fl fr' σ' => XT X fr σ (PySem.exec x X.env) fl fr' σ') h fun h => bnE h.2 fun y ey hy => ?_
    show Ok3 (exec1 X.P (run X.P k) X.hd (.raise e) fr σ) fun fl fr' σ' => XT X fr σ (PySem.exec (.Raise (sw x).oy (sw x).oz (sw x).p) X.env) fl fr' σ'
    rw [ey, non_of h.1]
    refine .okR (Ev e y fr σ hy) fun i σ1 A => .onX fun C d hi => .wh fun hb => .ret ?_
    cases Nat.eq_of_beq_eq_true (an_bool hb).2
    exact ex_raise (non_of (an_bool hb).1) A hi
  | reraise =>
    refine sgE (C := fun x => Ok3 (exec1 X.P (run X.P k) X.hd .reraise fr σ) fun fl fr' σ' => XT X fr σ (PySem.exec x X.env) fl fr' σ') h fun h => ?_
    show Ok3 (exec1 X.P (run X.P k) X.hd .reraise fr σ) fun fl fr' σ' => XT X fr σ (PySem.exec (.Raise (sw x).oy (sw x).oz (sw x).p) X.env) fl fr' σ'
    rw [non_of (an_bool h.1).1, non_of (an_bool h.1).2]
    exact .bind fun e he => .onX fun C d hi => .ret (ex_reraise he hi)
  | delsl e =>
    refine sgE (C := fun x => Ok3 (exec1 X.P (run X.P k) X.hd (.delsl e) fr σ) fun fl fr' σ' => XT X fr σ (PySem.exec x X.env) fl fr' σ') h fun h => bnE h fun y ey h => ?_
    show Ok3 (exec1 X.P (run X.P k) X.hd (.delsl e) fr σ) fun fl fr' σ' => XT X fr σ (PySem.exec (.Delete (sw x).es (sw x).p) X.env) fl fr' σ'
    rw [one_of ey]
    refine tgE (C := fun y => Ok3 (exec1 X.P (run X.P k) X.hd (.delsl e) fr σ) fun fl fr' σ' => XT X fr σ (PySem.exec (.Delete [y] (sw x).p) X.env) fl fr' σ') h fun h => ?_
    exact tgE (C := fun z => Ok3 (exec1 X.P (run X.P k) X.hd (.delsl e) fr σ) fun fl fr' σ' => XT X fr σ (PySem.exec (.Delete [.Subscript (vw y).y z (vw y).p] (sw x).p) X.env) fl fr' σ') h fun h => .okR (Ev e _ fr σ h) fun l σ1 A => .onL fun xs hl => .wh fun hn => .ret (ex_delsl A hl (Nat.le_of_ble_eq_true hn))
  | tryN b o =>
    refine sgE (C := fun x => Ok3 (exec1 X.P (run X.P k) X.hd (.tryN b o) fr σ) fun fl fr' σ' => XT X fr σ (PySem.exec x X.env) fl fr' σ') h fun h => bnE h.2 fun q eq hh => ?_
    show Ok3 (exec1 X.P (run X.P k) X.hd (.tryN b o) fr σ) fun fl fr' σ' => XT X fr σ (PySem.exec (.Try (sw x).a (sw x).hs (sw x).b (sw x).f (sw x).p) X.env) fl fr' σ'
    rw [emp_of h.1, un_of eq]
    refine .b3 (execs_ok Es hh.1) fun fl fr1 σ1 A => ?_
    cases fl with
    | next => exact (execs_ok Es hh.2).mono fun r B => ex_try_next A B
    | _ => exact .nil
  | tryF b f =>
    refine sgE (C := fun x => Ok3 (exec1 X.P (run X.P k) X.hd (.tryF b f) fr σ) fun fl fr' σ' => XT X fr σ (PySem.exec x X.env) fl fr' σ') h fun h => bnE h.2 fun q eq hh => ?_
    show Ok3 (exec1 X.P (run X.P k) X.hd (.tryF b f) fr σ) fun fl fr' σ' => XT X fr σ (PySem.exec (.Try (sw x).a (sw x).hs (sw x).b (sw x).f (sw x).p) X.env) fl fr' σ'
    have hf := hh.2
    rw [un_of eq] at hf
    rw [emp_of (an_bool h.1).1, emp_of (an_bool h.1).2, un_of eq]
    refine .b3 (execs_ok Es hh.1) fun fl fr1 σ1 A => ?_
    cases fl with
    | exc e => exact .nil
    | next =>
      refine .b3 (execs_ok Es hf) fun fl2 fr2 σ2 B => ?_
      cases fl2 with
      | next => exact .ret (ex_finally (fun _ => (nomatch ·)) A B)
      | _ => exact .nil
    | ret v =>
      refine .b3 (execs_ok Es hf) fun fl2 fr2 σ2 B => ?_
      cases fl2 with
      | next => exact .ret (ex_finally (fun _ => (nomatch ·)) A B)
      | _ => exact .nil
  | tryB b hb o =>
    refine sgE (C := fun x => Ok3 (exec1 X.P (run X.P k) X.hd (.tryB b hb o) fr σ) fun fl fr' σ' => XT X fr σ (PySem.exec x X.env) fl fr' σ') h fun h => bnE h.2 fun x1 ex hh => bnE hh.2 fun q eq h2 => ?_
    show Ok3 (exec1 X.P (run X.P k) X.hd (.tryB b hb o) fr σ) fun fl fr' σ' => XT X fr σ (PySem.exec (.Try (sw x).a (sw x).hs (sw x).b (sw x).f (sw x).p) X.env) fl fr' σ'
    rw [emp_of h.1, one_of ex]
    obtain ⟨ty, nme, bd, hp⟩ := x1
    have n1 : ty = none := non_of (an_bool hh.1).1
    have n2 : nme = none := non_of (an_bool hh.1).2
    have n3 : bd = q.1 :: q.2 := un_of eq
    cases n1
    cases n2
    cases n3
    refine .b3 (execs_ok Es h2.1) fun fl fr1 σ1 A => ?_
    cases fl with
    | next => exact (execs_ok Es h2.2.2).mono fun r B => ex_try_next A B
    | ret v => exact .nil
    | exc e =>
      refine .wh fun hn => ?_
      have B : Ok3 (execs (run X.P k) (some e) hb fr1 σ1) fun fl fr' σ' => ∀ a, XT (X.held e a) fr1 σ1 (PySem.execs (q.1 :: q.2) X.env) fl fr' σ' := .all fun a => execs_ok (X := X.held e a) ((H.1 (X.held e a) H.2 (Nat.le_of_succ_le (Nat.le_of_succ_le H.3))).5 n c H.4.held hc hfe) h2.2.1
      exact B.mono fun r B => ex_bare (non_of hn) hfe A B
  | tryA g z b hb o =>
    refine sgE (C := fun x => Ok3 (exec1 X.P (run X.P k) X.hd (.tryA g z b hb o) fr σ) fun fl fr' σ' => XT X fr σ (PySem.exec x X.env) fl fr' σ') h fun h => bnE h.2 fun x1 ex hh => bnE hh fun ty ety hh => bnE hh.2 fun s es hh2 => bnE hh2.2.2.2 fun q eq h2 => ?_
    show Ok3 (exec1 X.P (run X.P k) X.hd (.tryA g z b hb o) fr σ) fun fl fr' σ' => XT X fr σ (PySem.exec (.Try (sw x).a (sw x).hs (sw x).b (sw x).f (sw x).p) X.env) fl fr' σ'
    rw [emp_of h.1, one_of ex]
    obtain ⟨ty', nme, bd, hp⟩ := x1
    cases ety
    cases es
    have n3 : bd = q.1 :: q.2 := un_of eq
    cases n3
    have hz : nm z = s := isNm_of hh2.1
    cases hz
    refine tgE (C := fun ty => Ok3 (exec1 X.P (run X.P k) X.hd (.tryA g z b hb o) fr σ) fun fl fr' σ' => XT X fr σ (PySem.exec (.Try (sw x).a [.ExceptHandler (some ty) (some (nm z)) (q.1 :: q.2) hp] (sw x).b [] (sw x).p) X.env) fl fr' σ') hh.1 fun hg => ?_
    show Ok3 (exec1 X.P (run X.P k) X.hd (.tryA g z b hb o) fr σ) fun fl fr' σ' => XT X fr σ (PySem.exec (.Try (sw x).a [.ExceptHandler (some (.Name (vw ty).s (vw ty).p)) (some (nm z)) (q.1 :: q.2) hp] (sw x).b [] (sw x).p) X.env) fl fr' σ'
    rw [← (isNm_of hg.1 : nm g = (vw ty).s)]
    have hgl : X.env.scope.names.lookup (nm g) = some .globalImplicit := sc ▸ isKd_of hh2.2.1
    have hzl : X.env.scope.names.lookup (nm z) = some .local := sc ▸ isKd_of hh2.2.2.1
    refine .b3 (execs_ok Es h2.1) fun fl fr1 σ1 A => ?_
    cases fl with
    | next => exact (execs_ok Es h2.2.2).mono fun r B => ex_try_next A B
    | ret v => exact .nil
    | exc e =>
      refine .wh fun hn => .bind fun gv hgv => .wh fun hb1 => .onX fun D d he => .wh fun hb2 => .b3 (ψ := fun fl fr' σ' => ∀ a, XT (X.held e a) (fr1.put z (.ref e)) σ1 (PySem.execs (q.1 :: q.2) X.env) fl fr' σ') (.all fun a => execs_ok (X := X.held e a) ((H.1 (X.held e a) H.2 (Nat.le_of_succ_le (Nat.le_of_succ_le H.3))).5 n c H.4.held hc hfe) h2.2.1) fun fl fr2 σ2 B => ?_
      cases SV.eqb_of hb1
      cases Nat.eq_of_beq_eq_true hb2
      cases fl with
      | ret v => exact .ret (ex_as (non_of hn) hfe hgv hgl hzl A he B)
      | _ => exact .nil
  | asgn ts e =>
    refine sgE (C := fun x => Ok3 (exec1 X.P (run X.P k) X.hd (.asgn ts e) fr σ) fun fl fr' σ' => XT X fr σ (PySem.exec x X.env) fl fr' σ') h fun h => bnE h.2 fun o eo h2 => .okE (Ev e _ fr σ h2.2.1) fun v σ1 A => .b2 (storeAll_ok H.4 Ev h2.2.2) fun fr1 σ2 B => .ret ?_
    cases non_of h2.1
    exact ex_asgn ((sws_sc (env' := env0 c.sc) sc).trans (isFalse_of h.1)) ((sst_sc (env' := env0 c.sc) sc).trans (pureOf_of eo)) A B
  | swap ps l =>
    refine sgE (C := fun x => Ok3 (exec1 X.P (run X.P k) X.hd (.swap ps l) fr σ) fun fl fr' σ' => XT X fr σ (PySem.exec x X.env) fl fr' σ') h fun h => bnE h.2 fun o eo h2 => bnE h2 fun ns en h2 => bnE h2.2.2 fun y ey h3 => ?_
    have hs := (sws_sc (env' := env0 c.sc) sc).trans (isFalse_of h.1)
    have hw := (sst_sc (env' := env0 c.sc) sc).trans (pureOf_of eo)
    show Ok3 (exec1 X.P (run X.P k) X.hd (.swap ps l) fr σ) fun fl fr' σ' => XT X fr σ (PySem.exec (.Assign (sw x).es (sw x).y (sw x).p) X.env) fl fr' σ'
    rw [en, (of_decide_eq_true h2.1 : ns = ps.map nm)] at hw
    rw [one_of ey] at hs hw ⊢
    refine tgE (C := fun y => swapsWithSole [y] (sw x).y (sw x).p.line X.env = pure false → swappedStores [y] (sw x).y X.env = pure (some (ps.map nm)) → Ok3 (exec1 X.P (run X.P k) X.hd (.swap ps l) fr σ) fun fl fr' σ' => XT X fr σ (PySem.exec (.Assign [y] (sw x).y (sw x).p) X.env) fl fr' σ') h3 (fun h3 => tgE (C := fun z => swapsWithSole [.Tuple (vw y).es (vw y).m (vw y).p] z (sw x).p.line X.env = pure false → swappedStores [.Tuple (vw y).es (vw y).m (vw y).p] z X.env = pure (some (ps.map nm)) → Ok3 (exec1 X.P (run X.P k) X.hd (.swap ps l) fr σ) fun fl fr' σ' => XT X fr σ (PySem.exec (.Assign [.Tuple (vw y).es (vw y).m (vw y).p] z (sw x).p) X.env) fl fr' σ') h3 fun h3 hs hw => ?_) hs hw
    refine .b2 (evs_ok (pos := (vw (sw x).y).p) Ev h3) fun vs σ1 A => .wh fun hn => .ret ?_
    have hn := an_bool hn
    exact ex_swap hs hw (fun q hq => sc ▸ isKd_of (List.all_eq_true.mp h2.2.1 q hq)) (Nat.eq_of_beq_eq_true hn.2) SS.new_at (ev_tup A hn.1)
  | defn z j =>
    refine sgE (C := fun x => Ok3 (exec1 X.P (run X.P k) X.hd (.defn z j) fr σ) fun fl fr' σ' => XT X fr σ (PySem.exec x X.env) fl fr' σ') h fun h => bnE h fun a ea h => bnE h fun cc ec h => .bind fun c2 e2 => .bind fun cs hcs => .ret ?_
    cases ec.symm.trans e2
    have n1 : nm z = (sw x).s := isNm_of h.1
    have n2 : nm z = (sw x).s2 := isNm_of h.2.1
    have d := an_bool h.2.2.1
    have hx : X.env.scope.names.lookup (nm z) = some .local := sc ▸ isKd_of h.2.2.2.2.1
    have b := an_bool h.2.2.2.2.2.1
    have b2 := an_bool b.2
    have b3 := an_bool b2.2
    have M := h.2.2.2.2.2.2.2
    show XT X fr σ (PySem.exec (.FunctionDef (sw x).s (sw x).ar (sw x).a (sw x).es (sw x).oy (sw x).tp (sw x).sc (sw x).ts (sw x).s2 (sw x).p) X.env) .next _ _
    rw [← n1] at M ⊢
    rw [← n2, emp_of b.1, non_of b2.1, emp_of b3.1, non_of b3.2]
    exact ex_def M H.4.2 (H.4.3 a ea) (emp_of d.1) (emp_of d.2) (noAnn_of h.2.2.2.1 X.env) h.2.2.2.2.2.2.1 hcs hx
end
section
variable {l : Nat} {it : Addr}
theorem moveN {h' : Heap} {t : Nat} (S : At X fr σ w) (hn : w.cl it = .non) (soft : ∀ o, w.s.heap.get? it = some o → Soft o) (hk : ∀ b o, w.s.heap.get? b = some o → b ≠ it → h'.get? b = some o) : At X fr σ (w.hp h' t) :=
  have ne : ∀ {b c}, w.cl b = c → c ≠ .non → b ≠ it := fun h n q => n (h.symm.trans ((congrArg w.cl q).trans hn))
  move S (fun b => b = it) (fun c => c = .non) (fun b q => (congrArg w.cl q).trans hn) rfl (fun b o e n => hk b o e n) (fun b o q e => soft o ((congrArg w.s.heap.get? q).symm.trans e)) (fun _ _ => rfl) (fun b z c => c.elim (fun q => absurd q z) fun q => absurd ((congrArg w.cl q).trans hn) z) (.refl _) rfl (fun _ _ => rfl) (fun j sj q => .inl ⟨q, (nomatch ·), (nomatch ·)⟩) (nomatch ·) (nomatch ·)
    (ns_at S.4 fun o e => hk _ o e (ne S.6 (nomatch ·))) (ns_at S.5 fun o e => hk _ o e (ne S.7 fr_lc)) (S.nme (fun _ _ => rfl) (.refl _) rfl) rfl rfl rfl (fun e he c => nomatch c) fun _ _ => rfl
inductive Sm (w w' : Wd) : Prop | mk (k : w'.k = w.k) (ρ : w'.ρ = w.ρ) (cl : w'.cl = w.cl)
theorem Sm.trans {w₁ w₂ w₃ : Wd} (x : Sm w₁ w₂) (y : Sm w₂ w₃) : Sm w₁ w₃ := ⟨y.1.trans x.1, y.2.trans x.2, y.3.trans x.3⟩
theorem Sm.ex {w₁ w₂ : Wd} {O : List Env} {n : Nat} (x : Sm w₁ w₂) : Ex O n w₁ w₂ := .of x.1 fun i _ => congrFun x.2 i
theorem Sm.hp {h : Heap} {t : Nat} : Sm w (w.hp h t) := ⟨rfl, rfl, rfl⟩
theorem Sm.nms {me : PySem.Str → Option Value} {h : Heap} {t : Nat} : Sm w (w.nms X me h t) := ⟨rfl, rfl, rfl⟩
noncomputable def OS (o : Option PySem.Str) (z : Value) : Prop := ∃ t u, o = some t ∧ z = .str t u
noncomputable def PutTurn (X : Cx) (fr : SFr) (σ : SS) (w₀ : Wd) (l : Nat) (St : Nat → Heap → Prop) (Pn : Nat → Value → Prop) (Y : Heap → Prop) (ps : List (Int × PySem.Str)) (te : Expr) (body : List Stmt) : Prop := ∀ c p v zs n0 (w : Wd) (R : Shared → Prop), ps[c]? = some p → Pn c v → Sm w₀ w → At X fr σ w → St (c + 1) w.s.heap → Y w.s.heap → w.s.heap.get? (w.ρ l) = some (listOf zs n0) → 0 ≤ p.1 → p.1 < zs.size → zs.size ≤ 1000 →
  (∀ w' n1 u, Sm w w' → At X fr σ w' → St (c + 1) w'.s.heap → Y w'.s.heap → w'.s.heap.get? (w'.ρ l) = some (listOf (zs.setIfInBounds p.1.toNat (.str p.2 u)) n1) → R w'.s) →
  wpAny X.M X.A (assign te X.env v) (fun _ s2 => wpAny X.M X.A (PySem.execs body X.env) (fun fl s3 => fl = .next ∧ R s3) (fun _ _ => False) s2) (fun _ _ => False) w.s
inductive PI (X : Cx) (fr : SFr) (σ : SS) (w₀ : Wd) (l : Nat) (St : Nat → Heap → Prop) (Y : Heap → Prop) (ps : List (Int × PySem.Str)) (fin : List (Option PySem.Str)) (m : Nat) (s : Shared) : Prop | mk (c : Nat) (zs : Array Value) (n0 : Nat) (os : List (Option PySem.Str)) (w : Wd) (hs : w.s = s) (hm : m = ps.length - c) (le : c ≤ ps.length) (x : Sm w₀ w) (at_ : At X fr σ w) (st : St c w.s.heap) (y : Y w.s.heap)
  (hz : w.s.heap.get? (w.ρ l) = some (listOf zs n0)) (ho : All2 OS os zs.toList) (ap : dApp (ps.drop c) os = some fin) (sz : zs.size ≤ 1000)
theorem put_loop {te : Expr} {body : List Stmt} {fp : List Addr} {Pn : Nat → Value → Prop} {St : Nat → Heap → Prop} {Y : Heap → Prop} {ps : List (Int × PySem.Str)} {fin : List (Option PySem.Str)} (Wk : Walks X.G.prog X.G.w X.A it fp [it] ps.length Pn St) (soI : ∀ c h, St c h → ∃ o, h.get? it = some o ∧ Soft o)
    (hY : ∀ h h', Y h → (∀ b o, b ≠ it → h.get? b = some o → h'.get? b = some o) → (∃ o, h.get? it = some o ∧ Soft o) → Y h') (hl : l < σ.objs.length) (turn : PutTurn X fr σ w l St Pn Y ps te body)
    (htg : ∀ (c : Nat) (v : Value) (s : Shared) (Q : Unit → Shared → Prop) (E : Value → Shared → Prop), Pn c v → Y s.heap → St (c + 1) s.heap → c < ps.length → Q () s → wpAny X.M X.A (letOwnedTupleGo te (.ref it) v) Q E s)
    {R : Result → Shared → Prop} {zs : Array Value} {n0 : Nat} {os : List (Option PySem.Str)} (S : At X fr σ w) (non : w.cl it = .non) (st : St 0 w.s.heap) (y : Y w.s.heap) (hz : w.s.heap.get? (w.ρ l) = some (listOf zs n0)) (ho : All2 OS os zs.toList) (hap : dApp ps os = some fin) (hsz : zs.size ≤ 1000)
    (k : ∀ w' zs n1, Sm w w' → At X fr σ w' → w'.s.heap.get? (w'.ρ l) = some (listOf zs n1) → All2 OS fin zs.toList → R (.ok .next) w'.s) : codeAny X.M X.A (.forLoop te (.ref it) body [] X.env) R w.s := by
  refine codeAny_forLoop_any (PI X fr σ w l St Y ps fin) (fun mm s' hI => ?_) ps.length ⟨0, zs, n0, os, w, rfl, rfl, Nat.zero_le _, ⟨rfl, rfl, rfl⟩, S, st, y, hz, ho, hap, hsz⟩
  cases hI with
  | mk c zs n0 os w1 hs hm hcl x1 S1 st1 y1 hz1 ho1 hap1 hsz1 =>
    cases hs
    have non1 : w1.cl it = .non := (congrFun x1.3 it).trans non
    have old := soI _ _ st1
    have soft : ∀ o, w1.s.heap.get? it = some o → Soft o := fun o e => let ⟨o', e', q⟩ := old; Option.some.inj (e'.symm.trans e) ▸ q
    have lne : w1.ρ l ≠ it := fun q => nomatch (S1.lt hl).2.symm.trans ((congrArg w1.cl q).trans non1)
    by_cases hc' : c < ps.length
    · have hp : ps[c]? = some ps[c] := List.getElem?_eq_getElem hc'
      refine Wk.item c w1.s _ _ hc' st1 fun v h' tk hP st2 hk => ?_
      have hk' : ∀ b o, w1.s.heap.get? b = some o → b ≠ it → h'.get? b = some o := fun b o e hb => hk b o (fun q => hb (List.mem_singleton.mp q)) e
      have S2 := moveN (t := tk) S1 non1 soft hk'
      have y2 := hY _ _ y1 (fun b o hb e => hk' b o e hb) old
      rw [List.drop_eq_getElem_cons hc'] at hap1
      unfold dApp at hap1
      by_cases q : 0 ≤ ps[c].1 ∧ ps[c].1 < os.length
      · rw [if_pos q] at hap1
        have hos : os.length = zs.size := ho1.length.trans Array.length_toList
        have t := turn c ps[c] v zs n0 (w1.hp h' tk) (fun s3 => ∃ m, m < mm ∧ PI X fr σ w l St Y ps fin m s3) hp hP (x1.trans .hp) S2 st2 y2 (hk' _ _ hz1 lne) q.1 (hos ▸ q.2) hsz1 fun w3 n1 u x3 S3 st3 y3 hz3 =>
          ⟨ps.length - (c + 1), hm ▸ Nat.sub_succ_lt_self _ _ hc', c + 1, _, n1, _, w3, rfl, rfl, hc', (x1.trans .hp).trans x3, S3, st3, y3, hz3, by rw [Array.toList_setIfInBounds]; exact ho1.set ⟨_, u, rfl, rfl⟩ _, hap1, by rw [Array.size_setIfInBounds]; exact hsz1⟩
        refine htg c v { w1.s with heap := h', toks := tk } _ _ hP y2 st2 hc' (wpAny_mono t (fun _ s2 h2 => wpAny_mono h2 (fun fl s3 h3 => ?_) fun _ _ z => z.elim) fun _ _ z => z.elim)
        obtain ⟨rfl, h3⟩ := h3
        exact h3
      · rw [if_neg q] at hap1; cases hap1
    · cases Nat.le_antisymm hcl (Nat.le_of_not_lt hc')
      refine Wk.done w1.s _ _ st1 fun h' tk hk => ?_
      have hk' : ∀ b o, w1.s.heap.get? b = some o → b ≠ it → h'.get? b = some o := fun b o e hb => hk b o (fun q => hb (List.mem_singleton.mp q)) e
      have S2 := moveN (t := tk) S1 non1 soft hk'
      rw [List.drop_length] at hap1
      cases hap1
      exact wpAny_execs_nil (k _ zs n0 (x1.trans .hp) S2 (hk' _ _ hz1 lne) ho1)
end
section
variable {l d x y kn : Nat} {es : List (Nat × SV)}
theorem gi_dict {i n : Nat} {v : SV} (hi : σ.objs[i]? = some (.dict es)) (hv : lk es n = some v) : GI X fr σ (.ref i) (.str n) v := fun w x y Q E S hx hy h => by
  cases hx
  obtain ⟨t, rfl⟩ := hy
  exact S.dict hi fun kvs D r => (valueAt_of r n).some hv fun z hz d => ⟨"dict", _, slot_dict_getitem.lookup, S.dictType D, wpAny_getItem_of (knd := strKind X.G.prog X.G.w) (k := nm n) (decide_eq_true rfl) D.mapOf hz (h z _ ⟨d, S.ltO hi _ (lk_mem hv)⟩)⟩
theorem sub_open {s : Shared} {A : Around} {E : Value → Shared → Prop} {prog : Program} {wd : World} {e ei : Expr} {p : Pos} {env : Env} (mi : plB ei = true) {Q : Value → Shared → Prop} (h : wpAny (model prog wd) A (eval e env) (fun x s1 => wpAny (model prog wd) A (eval ei env) (fun y s2 => ∀ Q' : Value → Shared → Prop, (∀ z s3, Q z s3 → Q' z s3) → ItemOn (model prog wd) A E x y Q' s2) E s1) E s) :
    wpAny (model prog wd) A (eval (.Subscript e ei p) env) Q E s := by
  rw [arm_eval_Subscript]
  refine wpAny_bind (wpAny_mono h (fun x s1 h1 => wpAny_bind (wpAny_holding (wpAny_mono h1 (fun y s2 h2 => wpAny_bind (wpAny_standAt ?_)) fun _ _ z => z))) fun _ _ z => z)
  obtain ⟨T, id, hl, hT, hg⟩ := h2 (fun y' s' => wpAny (model prog wd) A (letTemporaryGo e x y' >>= fun _ => pure y') Q E s') fun z s3 q => wpAny_bind (wpAny_letTemporaryGo (wpAny_pure q))
  refine wpAny_bind ?_
  rw [getitemInPython_of_ne hT.not_modules]
  refine wpAny_bind (wpAny_specialOf hT hl ?_)
  have fin : wpAny (model prog wd) A (subscripted ei false x y) (fun r s₃ => wpAny (model prog wd) A (letTemporaryGo e x r >>= fun _ => pure r) Q E s₃) E s2 := by
    rw [pl_slice mi]; exact wpAny_operating hg
  first
    | exact wpAny_pure (wpAny_bind fin)
    | exact wpAny_bind (wpAny_pure (wpAny_bind fin))
    | exact wpAny_bind fin
theorem put_body {ve : Expr} {p4 p5 p6 p7 p8 p10 : Pos} {k2 : Nat} {z : Int} {t0 : Tok} {tx : PySem.Str} {zs : Array Value} {n0 : Nat} (S : At X fr σ w) (mv : plB ve = true) (hc : notComp ve = true) (hkn : X.env.scope.names.lookup (nm kn) = some .local) (hk : w.me (nm kn) = some (.int z t0)) (hd : σ.objs[d]? = some (.dict es)) (hy : lk es y = some (.ref l))
    (hz : w.s.heap.get? (w.ρ l) = some (listOf zs n0)) (h0 : 0 ≤ z) (h1 : z < zs.size) (h2 : zs.size ≤ 1000) (hx : ∀ tk (Q : Value → Shared → Prop) (E : Value → Shared → Prop), Q (.ref (w.ρ d)) { w.s with toks := tk } → wpAny X.M X.A (eval (.Name (nm x) p4) X.env) Q E { w.s with toks := tk })
    (hv : ∀ (Q : Value → Shared → Prop) (E : Value → Shared → Prop), (∀ u tk, Q (.str tx u) { w.s with toks := tk }) → wpAny X.M X.A (eval ve X.env) Q E w.s) {Q : Flow → Shared → Prop} {E : Value → Shared → Prop} (k : ∀ u tk, Q .next { w.s with heap := w.s.heap.update (w.ρ l) (Obj.mapSeq (·.setIfInBounds z.toNat (.str tx u))), toks := tk }) :
    wpAny X.M X.A (PySem.execs [.Assign [.Subscript (.Subscript (.Name (nm x) p4) (.Constant (.str (nm y)) k2 p5) p6) (.Name (nm kn) p7) p8] ve p10] X.env) Q E w.s := by
  refine wpAny_execs_cons ?_
  rw [exec_Assign_Subscript _ _ _ _ _ (swaps_none mv hc _ _ _)]
  refine wpAny_bind (wpAny_standAt (wpAny_bind (hv _ _ fun u tk => wpAny_bind ?_)))
  rw [assign_Subscript]
  refine wpAny_bind (wpAny_holding (sub_open rfl (hx tk _ _ (wpAny_Constant_str fun Q' hQ' => ?_))))
  refine gi_dict (X := X) hd hy (w.hp w.s.heap (tk + 1)) _ _ _ _ (toks S (tk + 1)) rfl ⟨_, rfl⟩ fun yy t dd => ?_
  cases dd.1
  refine hQ' _ _ ?_
  refine wpAny_bind (wpAny_holding (wpAny_Name (wpAny_loadName_local S.kind hkn S.5 hk ?_) (debug_ne kn)))
  refine wpAny_bind (wpAny_standAt (wpAny_bind (wpAny_holding ?_)))
  refine ki_setAt (n := n0) hz h0 (Int.lt_of_lt_of_le h1 (Int.le_trans (Int.ofNat_le.mpr h2) (by decide))) h1 ?_
  exact wpAny_release (wpAny_pure (wpAny_execs_nil (k u t)))
theorem os_of {xs : List SV} {vs : List Value} (h : All2 (Den V ρ) xs vs) (hs : ∀ x ∈ xs, ∃ t, sval V x = some t) : All2 OS (xs.map (sval V)) vs := by
  induction h with
  | nil => exact .nil
  | @cons x v _ _ a r ih =>
    obtain ⟨t, ht⟩ := hs x (.head _)
    obtain ⟨u, rfl⟩ := sval_den ht a
    exact .cons ⟨t, u, ht, rfl⟩ (ih fun x hx => hs x (.tail _ hx))
theorem os_back {ys : List SV} : ∀ {vs : List Value}, All2 OS (ys.map (sval V)) vs → All2 (Den V ρ) ys vs := by
  induction ys with
  | nil => exact fun h => by cases h; exact .nil
  | cons y ys ih =>
    intro vs h
    cases h with
    | cons a r =>
      obtain ⟨t, u, h1, rfl⟩ := a
      exact .cons (sval_of (n := 0) h1 u).1 (ih r)
theorem rowDapp_mem {d : Nat} {xs : List SV} {rs : List Row} : Ok (rowDapp d xs rs) fun ys => .dapp d xs ys ∈ rs := .row fun r hr => by
  cases r with
  | dapp d' x' r' => exact .wh fun h => .ret (Nat.eq_of_beq_eq_true (an_bool h).1 ▸ eqVs_of (an_bool h).2 ▸ hr)
  | _ => exact .nil
theorem listO_soft {zs : Array Value} {n : Nat} : Soft (listOf zs n) := ⟨fun xs n q => ty_lt (congrArg Obj.cls q), fun vs q t e => (by cases e)⟩
theorem put_start {xs : List SV} (S : At X fr σ w) (hl : σ.objs[l]? = some (.list xs)) : At X fr (σ.set l .dead) w := S.at_ hl fun o e D =>
  updS (t := w.s.toks) (h' := w.s.heap) S hl (Heap.SameBut.refl ..) (fun o q => Option.some.inj (e.symm.trans q) ▸ soft_list D) (.mk o e trivial trivial) trivial (leN hl nL) (S.hdN hl nL)
theorem set_set {so so' : SObj} : (σ.set l so).set l so' = σ.set l so' := congrArg (SS.mk · σ.rows) (List.set_set ..)
theorem put_end {n0 : Nat} {xs ys : List SV} {zs : Array Value} (hl : σ.objs[l]? = some (.list xs)) (hys : ∀ y ∈ ys, ∃ t, sval X.G.V y = some t) (S : At X fr (σ.set l .dead) w) (hz : w.s.heap.get? (w.ρ l) = some (listOf zs n0)) (ho : All2 OS (ys.map (sval X.G.V)) zs.toList) : At X fr (σ.set l (.list ys)) w := by
  have hi := SS.set_at (so := .dead) (SS.at_lt hl)
  have ne : ∀ C d, SObj.dead ≠ .exc C d := fun _ _ => (nomatch ·)
  have lt : ∀ v ∈ ys, v.lt (σ.set l .dead).objs.length := fun v hv => let ⟨t, ht⟩ := hys v hv; (sval_of (V := X.G.V) (ρ := w.ρ) (n := (σ.set l .dead).objs.length) ht 0).2
  have S' := updS (so' := .list ys) (t := w.s.toks) (h' := w.s.heap) S hi (Heap.SameBut.refl ..) (fun o q => Option.some.inj (hz.symm.trans q) ▸ listO_soft) (.mk (listOf zs n0) hz (Array.toArray_toList (xs := zs) ▸ LD.mk zs.toList n0 (os_back ho)) trivial) lt (leN hi ne) (S.hdN hi ne)
  rw [set_set] at S'
  exact S'
noncomputable def PairsAt (ps : List (Int × PySem.Str)) (vs : List Value) (h : Heap) : Prop := ∀ (c : Nat) (p : Int × PySem.Str) (v : Value), ps[c]? = some p → vs[c]? = some v → ∃ b t u k, v = .ref b ∧ h.get? b = some (pairObj p t u k)
theorem pair_notSoft {p : Int × PySem.Str} {t u : Tok} {k : Nat} (h : Soft (pairObj p t u k)) : False := h.1 _ _ rfl
theorem nameAny {M : Model} {A : Around} {E : Value → Shared → Prop} {z : Nat} {y : Value} (S : At X fr σ w) (hx : X.env.scope.names.lookup (nm z) = some .local) (hn : lk fr.loc z = none) {Q : Unit → Shared → Prop}
    (k : ∀ h', Heap.SameBut X.env.locals w.s.heap h' → At X fr σ (w.nms X (fun n => if n = nm z then some y else w.me n) h' (w.s.toks + 1)) → Q () { w.s with heap := h', toks := w.s.toks + 1 }) : wpAny M A (storeName X.env (nm z) y) Q E w.s :=
  wpAny_storeName_local hx S.5 (fun h' hn' hs => k h' hs (reName S hn' hs (fun x v q => by cases S.8 x v q with | mk l y e d => exact ⟨l, y, (if_neg fun z => by rw [nm_inj z, hn] at q; cases q).trans e, d⟩) rfl)) (fnK S)
end
section
variable {l d x y i j c' : Nat} {es : List (Nat × SV)} {xs ys : List SV}
theorem one_name {m : PySem.Str → Option Value} {b : Value} {s : PySem.Str} : (fun n => if n = s then some b else m n) s = some b := if_pos rfl
theorem two_names {m : PySem.Str → Option Value} {a b : Value} {s u : PySem.Str} (h : ¬ s = u) : (fun n => if n = u then some b else (fun n => if n = s then some a else m n) n) s = some a := by
  have e1 : (if s = s then some a else m s) = some a := if_pos rfl
  exact (if_neg h : (if s = u then some b else (if s = s then some a else m s)) = _).trans e1
theorem ex_feed {ie : Expr} {p1 p2 p3 p4 p5 p6 p7 p8 p9 p10 p : Pos} {kk k2 : Nat} (hn : X.hd = none) (hx : X.env.scope.names.lookup (nm x) = some .free) (hkn : X.env.scope.names.lookup (nm n_k) = some .local) (htn : X.env.scope.names.lookup (nm n_text) = some .local) (m : plB ie = true) (H : HV X fr σ (eval ie X.env) (.ref i) σ₁)
    (hi : σ₁.objs[i]? = some (.apairs j)) (hxc : lk fr.cel x = some c') (hc : σ₁.objs[c']? = some (.cell (some (.ref d)))) (hd : σ₁.objs[d]? = some (.dict es)) (hy : lk es y = some (.ref l)) (hl : σ₁.objs[l]? = some (.list xs)) (hsz : small xs = true) (hr : .dapp j xs ys ∈ σ₁.rows) :
    XT X fr σ (PySem.exec (.For (.Tuple [.Name (nm n_k) p1, .Name (nm n_text) p2] kk p3) ie [.Assign [.Subscript (.Subscript (.Name (nm x) p4) (.Constant (.str (nm y)) k2 p5) p6) (.Name (nm n_k) p7) p8] (.Name (nm n_text) p9) p10] [] p) X.env) .next ⟨[], fr.cel⟩ (σ₁.set l (.list ys)) := by
  have hll := SS.at_lt hl
  have getD : ∀ {a : Nat} {so : SObj}, σ₁.objs[a]? = some so → (∀ xs, so ≠ SObj.list xs) → (σ₁.set l .dead).objs[a]? = some so := fun e n => (SS.set_ne fun q => by cases q; exact n _ (Option.some.inj (e.symm.trans hl))).trans e
  refine ⟨H.1.trans (leN hl nL), trivial, fun w Q E _ S k => wpAny_For (H.3 w _ E trivial S fun w1 x1 S1 yv d1 => ?_) (fold_no m)⟩
  cases d1.1
  have hh := S.2.18 hn
  have R := (S1.row hr).1
  cases (S1.1 i _ hi).1 with
  | mk o e D xx =>
    obtain ⟨vs, n, rfl⟩ := D
    obtain ⟨ps, hperm, hps⟩ := xx
    cases R with
    | mk r1 r2 r3 =>
      have hLi : w1.s.heap.IsList (w1.ρ i) vs := ⟨_, e, rfl, n, rfl⟩
      refine wpAny_pyIter_list hLi ?_
      have S2 := put_start S1.noLoc hl
      have up : ∀ b o, w1.s.heap.get? b = some o → (w1.s.heap.push { cls := .type "list_iterator", data := .fields #[.ref (w1.ρ i), .int 0 0] }).get? b = some o := fun b o e => Heap.get?_push_of_some _ e
      have S3 := keep (t := w1.s.toks) S2 up
      have non : w1.cl w1.s.heap.objs.size = .non := S1.non none_size
      have ne : ∀ {b c}, w1.cl b = c → c ≠ .non → b ≠ w1.s.heap.objs.size := fun h n q => n (h.symm.trans ((congrArg w1.cl q).trans non))
      have ci := (S1.1 i _ hi).2
      have cll := (S1.1 l _ hl).2
      have il : w1.ρ i ≠ w1.ρ l := fun q => by cases S1.inj (SS.at_lt hi) hll q; cases hi.symm.trans hl
      have Wk := Walks.list (prog := X.G.prog) (w := X.G.w) (A := X.A) hh w1.s.heap.objs.size (w1.ρ i) (ne ci (nomatch ·)) vs
      have hvsz : vs.size = ps.length := (hps.length.trans Array.length_toList).symm
      rw [hvsz] at Wk
      cases S1.list hl with
      | mk us k0 eu Lu hu =>
        have turn : PutTurn X ⟨[], fr.cel⟩ (σ₁.set l .dead) (w1.hp (w1.s.heap.push { cls := .type "list_iterator", data := .fields #[.ref (w1.ρ i), .int 0 0] }) w1.s.toks) l (fun c h => h.IsListIter w1.s.heap.objs.size (w1.ρ i) c ∧ h.IsList (w1.ρ i) vs) (fun c v => vs[c]? = some v) (PairsAt ps vs.toList) ps (.Tuple [.Name (nm n_k) p1, .Name (nm n_text) p2] kk p3)
            [.Assign [.Subscript (.Subscript (.Name (nm x) p4) (.Constant (.str (nm y)) k2 p5) p6) (.Name (nm n_k) p7) p8] (.Name (nm n_text) p9) p10] := by
          intro c0 pr v zs n0 w2 R hp hP sm S st Y hz h0 h1 h2 k
          obtain ⟨b, t, u, kq, rfl, hb⟩ := Y c0 pr v hp ((Array.getElem?_toList ..).trans hP)
          have eρ : w2.ρ = w1.ρ := sm.2
          have ecl : w2.cl = w1.cl := sm.3
          refine wpAny_assign_Tuple hh ⟨_, hb, rfl, kq, rfl⟩ rfl rfl fun hA extA => ?_
          have keepA : ∀ b o, w2.s.heap.get? b = some o → hA.get? b = some o := fun b o e => extA b o (Nat.ne_of_lt (Heap.lt_size e)) e
          have SA := keep (t := w2.s.toks) S keepA
          refine wpAny_bind (wpAny_holding (PyProof.Rows.assign_Name (nameAny SA hkn rfl fun hB sB SB => ?_)))
          refine wpAny_bind (wpAny_holding (PyProof.Rows.assign_Name (nameAny SB htn rfl fun hC sC SC => wpAny_pure ?_)))
          have kt : ¬ nm n_k = nm n_text := fun q => absurd (nm_inj q) (by decide)
          have keepC : ∀ b o, w2.s.heap.get? b = some o → b ≠ X.env.locals → hC.get? b = some o := fun b o e hb => (sC.2 b hb).trans ((sB.2 b hb).trans (keepA b o e))
          have nlc : ∀ {b c}, w2.cl b = c → (∀ q : c = X.lc, False) → b ≠ X.env.locals := fun h n q => n (h.symm.trans ((congrArg w2.cl q).trans S.7))
          have lcn : ∀ j, Cl.ob j = X.lc → False := fun j => by unfold Cx.lc; cases X.lm <;> exact (nomatch ·)
          have nl : w2.ρ l ≠ X.env.locals := nlc (by rw [eρ, ecl]; exact cll) (lcn l)
          have ni : w1.ρ i ≠ X.env.locals := nlc (by rw [ecl]; exact ci) (lcn i)
          have nI : w1.s.heap.objs.size ≠ X.env.locals := nlc (by rw [ecl]; exact non) fun q => fr_lc q.symm
          have lI : w2.ρ l ≠ w1.s.heap.objs.size := by rw [eρ]; exact ne cll (nomatch ·)
          have bl : ∀ {b p t u k}, w2.s.heap.get? b = some (pairObj p t u k) → b ≠ X.env.locals := fun {b p t u k} e q => pair_notSoft (ns_soft S.5 _ (q ▸ e))
          have hzC := keepC _ _ hz nl
          refine put_body SC rfl rfl hkn (z := pr.1) (t0 := t) (tx := pr.2) (two_names (m := w2.me) (a := .int pr.1 t) (b := .str pr.2 u) kt) (getD hd fun _ => (nomatch ·)) hy hzC h0 h1 h2 (fun tk Q E q => ?_) (fun Q E q => ?_) fun uu tk => ⟨rfl, ?_⟩
          · exact SC.cell (getD hc fun _ => (nomatch ·)) fun yy hz' dd => by
              cases dd.1
              exact wpAny_Name (wpAny_loadName_free SC.kind hx (SC.9 x c' hxc).1 hz' q (beq_eq_false_iff_ne.mpr (nm_ne (by decide +kernel)))) (debug_ne x)
          · exact wpAny_Name (wpAny_loadName_local SC.kind htn SC.5 (one_name (s := nm n_text) (m := fun n => if n = nm n_k then some (.int pr.1 t) else w2.me n) (b := .str pr.2 u)) (q u _)) (debug_ne _)
          · have sD := Heap.SameBut.update hC (w2.ρ l) (Obj.mapSeq (·.setIfInBounds pr.1.toNat (.str pr.2 uu)))
            have keepD : ∀ b o, w2.s.heap.get? b = some o → b ≠ X.env.locals → b ≠ w2.ρ l → (hC.update (w2.ρ l) (Obj.mapSeq (·.setIfInBounds pr.1.toNat (.str pr.2 uu)))).get? b = some o := fun b o e q1 q2 => (sD.2 b q2).trans (keepC b o e q1)
            have hzD := PySem.IsL.update (h := hC) hzC (·.setIfInBounds pr.1.toNat (.str pr.2 uu))
            have hlD := SS.set_at (so := .dead) hll
            have SD := updS (t := tk) (so' := .dead) SC hlD sD (fun o e => Option.some.inj (hzC.symm.trans e) ▸ listO_soft) (.mk _ hzD trivial trivial) trivial (leN hlD fun _ _ => (nomatch ·)) (SC.hdN hlD fun _ _ => (nomatch ·))
            rw [set_same hlD] at SD
            refine k _ _ uu (((Sm.hp (w := w2) (h := hA) (t := w2.s.toks)).trans .nms).trans (Sm.trans .nms .hp)) SD ⟨?_, ?_⟩ (fun c p v e1 e2 => ?_) hzD
            · exact st.1.at fun o e => keepD _ _ e nI (Ne.symm lI)
            · exact st.2.at fun o e => keepD _ _ e ni (by rw [eρ]; exact il)
            · obtain ⟨b', t', u', k', rfl, e⟩ := Y c p v e1 e2
              exact ⟨b', t', u', k', rfl, keepD _ _ e (bl e) fun q => pair_notSoft (Option.some.inj (hz.symm.trans ((congrArg w2.s.heap.get? q).symm.trans e)) ▸ listO_soft)⟩
        have y0 : PairsAt ps vs.toList (w1.s.heap.push { cls := .type "list_iterator", data := .fields #[.ref (w1.ρ i), .int 0 0] }) := fun c p v e1 e2 => by
          obtain ⟨v', e3, P⟩ := hps.get e1
          cases Option.some.inj (e2.symm.trans e3)
          cases P with | mk b t u mm q1 q2 => exact ⟨b, t, u, mm, q1, up _ _ q2⟩
        exact put_loop (X := X) (w := w1.hp (w1.s.heap.push { cls := .type "list_iterator", data := .fields #[.ref (w1.ρ i), .int 0 0] }) w1.s.toks) (R := fun r s' => match r with | .ok f => Q f s' | .error e => cameBackBy X.M X.A X.env E e s') (fin := ys.map (sval X.G.V)) (os := xs.map (sval X.G.V)) (zs := List.toArray us) (n0 := k0) Wk (fun c h st => let ⟨o, e, _, hd⟩ := st.1; ⟨o, e, .fields hd fun q t z => nomatch z⟩)
          (fun h h2 Y hk hI c p v e1 e2 => let ⟨b, t, u, kq, q, e⟩ := Y c p v e1 e2; ⟨b, t, u, kq, q, hk _ _ (fun z => let ⟨o, eo, so⟩ := hI; pair_notSoft (Option.some.inj (eo.symm.trans ((congrArg h.get? z).symm.trans e)) ▸ so)) e⟩)
          (Nat.lt_of_lt_of_eq hll SS.len_set.symm) turn (fun c v s3 Q E hP hY st hc q => by
            obtain ⟨b, t, u, kq, rfl, _⟩ := hY c ps[c] v (List.getElem?_eq_getElem hc) ((Array.getElem?_toList ..).trans hP)
            exact wpAny_letOwnedTupleGo_listiter st.1 q) S3 non ⟨⟨_, Heap.get?_push_size _ rfl, rfl, rfl⟩, _, up _ _ e, rfl, n, rfl⟩ y0 (up _ _ eu) (os_of hu.1 r1) (r3 ps hperm) (by rw [List.size_toArray, ← hu.1.length]; exact Nat.le_of_ble_eq_true hsz)
          fun w3 zs3 n3 sm S3 hz3 ho3 => k w3 (x1.trans H.1.1 (sm.ex (w₁ := w1.hp (w1.s.heap.push { cls := .type "list_iterator", data := .fields #[.ref (w1.ρ i), .int 0 0] }) w1.s.toks) |> fun q => Ex.hp.trans (Nat.le_refl _) q)) (put_end hl r2 S3 hz3 ho3) _ rfl
end
section
variable {l dx du x y u v i j : Nat} {es es' : List (Nat × SV)} {xs ys : List SV}
theorem lk_delA {α : Type} {n x : Nat} {l : List (Nat × α)} : lk (delA l n) x = cond (Nat.beq x n) none (lk l x) := by
  induction l with
  | nil => show none = _; cases Nat.beq x n <;> rfl
  | cons e r ih =>
    show lk (List.filter (fun e => !Nat.beq e.1 n) (e :: r)) x = cond (Nat.beq x n) none (cond (Nat.beq e.1 x) (some e.2) (lk r x))
    rw [List.filter_cons]
    cases q : Nat.beq e.1 n with
    | true =>
      refine ih.trans ?_
      cases a : Nat.beq x n with
      | true => rfl
      | false => cases b : Nat.beq e.1 x with
        | false => rfl
        | true => exact absurd ((Nat.eq_of_beq_eq_true b).symm.trans (Nat.eq_of_beq_eq_true q)) (beq_false a)
    | false =>
      refine (show cond (Nat.beq e.1 x) (some e.2) (lk (delA r n) x) = _ from ?_)
      rw [ih]
      cases a : Nat.beq x n with
      | false => rfl
      | true => cases b : Nat.beq e.1 x with
        | false => rfl
        | true => exact absurd ((Nat.eq_of_beq_eq_true b).trans (Nat.eq_of_beq_eq_true a)) (beq_false q)
theorem locDel (S : At X fr σ w) (n : Nat) : At X ⟨delA fr.loc n, fr.cel⟩ σ w :=
  .mk S.1 S.2 S.3 S.4 S.5 S.6 S.7 (fun x v q => S.8 x v (by
    have q : lk (delA fr.loc n) x = some v := q
    rw [lk_delA] at q
    cases a : Nat.beq x n with
    | true => rw [a] at q; cases q
    | false => rw [a] at q; exact q)) S.9 S.10 S.11 S.12 S.13 S.14 S.15 S.16 S.17 S.18 S.19 S.20
theorem valueAt_nodup {K : Type} [DecidableEq K] {kvs : List (K × Value)} : ∀ {c : Nat} {k : K} {v : Value}, (kvs.map (·.1)).Nodup → kvs[c]? = some (k, v) → PySem.valueAt kvs k = some v := by
  induction kvs with
  | nil => exact fun _ h => nomatch h
  | cons e r ih =>
    intro c k v hn h
    have nd := List.nodup_cons.mp hn
    unfold PySem.valueAt at ih ⊢
    rw [List.find?_cons]
    cases c with
    | zero => cases h; rw [decide_eq_true rfl]; rfl
    | succ c =>
      have h' : r[c]? = some (k, v) := h
      rw [decide_eq_false fun q : e.1 = k => nd.1 (show e.1 ∈ r.map (·.1) from q.symm ▸ List.mem_map_of_mem (f := (·.1)) (List.mem_of_getElem? h'))]
      exact ih nd.2 h'
end
section
variable {l dx du x y u v i j : Nat} {es es' : List (Nat × SV)} {xs ys : List SV}
theorem ex_copy {p1 p2 p3 p4 p5 p6 p7 p8 p9 p10 p11 p12 p13 p14 p15 p : Pos} {k1 k2 k3 : Nat} (hn : X.hd = none) (hx : X.env.scope.names.lookup (nm x) = some .local) (hu : X.env.scope.names.lookup (nm u) = some .local) (hkn : X.env.scope.names.lookup (nm n_k) = some .local) (hkx : Nat.beq x n_k = false) (hku : Nat.beq u n_k = false)
    (hul : lk fr.loc u = some (.ref du)) (hxl : lk fr.loc x = some (.ref dx)) (hdu : σ.objs[du]? = some (.dict es)) (hdx : σ.objs[dx]? = some (.dict es')) (hv : lk es v = some (.ref i)) (hy : lk es' y = some (.ref l)) (hi : σ.objs[i]? = some (.adict j)) (hl : σ.objs[l]? = some (.list xs)) (hsz : small xs = true) (hr : .dapp j xs ys ∈ σ.rows) :
    XT X fr σ (PySem.exec (.For (.Name (nm n_k) p1) (.Subscript (.Name (nm u) p2) (.Constant (.str (nm v)) k1 p3) p4) [.Assign [.Subscript (.Subscript (.Name (nm x) p5) (.Constant (.str (nm y)) k2 p6) p7) (.Name (nm n_k) p8) p9] (.Subscript (.Subscript (.Name (nm u) p10) (.Constant (.str (nm v)) k3 p11) p12) (.Name (nm n_k) p13) p14) p15] [] p) X.env) .next ⟨delA fr.loc n_k, fr.cel⟩ (σ.set l (.list ys)) := by
  have hll := SS.at_lt hl
  have getD : ∀ {a : Nat} {so : SObj}, σ.objs[a]? = some so → (∀ xs, so ≠ SObj.list xs) → (σ.set l .dead).objs[a]? = some so := fun e n => (SS.set_ne fun q => by cases q; exact n _ (Option.some.inj (e.symm.trans hl))).trans e
  have H : HV X fr σ (eval (.Subscript (.Name (nm u) p2) (.Constant (.str (nm v)) k1 p3) p4) X.env) (.ref i) σ := ev_sub rfl (ev_loc hu hul) ev_str (gi_dict hdu hv)
  refine ⟨leN hl nL, trivial, fun w Q E _ S k => wpAny_For (H.3 w _ E trivial S fun w1 x1 S1 yv d1 => ?_) (fun _ => rfl)⟩
  cases d1.1
  have hh := S.2.18 hn
  have R := (S1.row hr).1
  refine S1.at_ hi fun o e D => ?_
  cases D with
  | mk kvs D hA hne hln => cases D with
    | mk des ep kd pp nd => cases R with
      | mk r1 r2 r3 =>
        have hD : w1.s.heap.DictOf (PySem.intKind X.G.prog X.G.w) (w1.ρ i) kvs := ⟨_, des.toArray, ep, e, ⟨rfl, rfl, rfl⟩, rfl, kd, pp, nd⟩
        obtain ⟨ep', hAt⟩ := hD.dictAt
        refine wpAny_pyIter_dict (knd := PySem.intKind X.G.prog X.G.w) (S1.notSys hi) hAt ?_
        have S2 := put_start (locDel S1 n_k) hl
        have up : ∀ b o, w1.s.heap.get? b = some o → (w1.s.heap.push { cls := .type "dict_keyiterator", data := .fields #[.ref (w1.ρ i), .int 0 0, .int kvs.length 0, .int ep' 0] }).get? b = some o := fun b o e => Heap.get?_push_of_some _ e
        have S3 := keep (t := w1.s.toks) S2 up
        have non : w1.cl w1.s.heap.objs.size = .non := S1.non none_size
        have ne : ∀ {b c}, w1.cl b = c → c ≠ .non → b ≠ w1.s.heap.objs.size := fun h n q => n (h.symm.trans ((congrArg w1.cl q).trans non))
        have ci := (S1.1 i _ hi).2
        have cll := (S1.1 l _ hl).2
        have il : w1.ρ i ≠ w1.ρ l := fun q => by cases S1.inj (SS.at_lt hi) hll q; cases hi.symm.trans hl
        have Wk := Walks.dictKeys (prog := X.G.prog) (w := X.G.w) (A := X.A) (knd := PySem.intKind X.G.prog X.G.w) hh w1.s.heap.objs.size (w1.ρ i) (ne ci (nomatch ·)) kvs ep'
        rw [← hA.length] at Wk
        cases S1.list hl with
        | mk us m0 eu Lu hus =>
          have turn : PutTurn X ⟨delA fr.loc n_k, fr.cel⟩ (σ.set l .dead) (w1.hp (w1.s.heap.push { cls := .type "dict_keyiterator", data := .fields #[.ref (w1.ρ i), .int 0 0, .int kvs.length 0, .int ep' 0] }) w1.s.toks) l (fun c h => h.IsKeyIter w1.s.heap.objs.size (w1.ρ i) c (X.G.V.dic j).length ep' ∧ h.DictAt (PySem.intKind X.G.prog X.G.w) (w1.ρ i) kvs ep')
              (fun c v => ∃ k x, kvs[c]? = some (k, x) ∧ (PySem.intKind X.G.prog X.G.w).is k v = true) (fun _ => True) (X.G.V.dic j) (.Name (nm n_k) p1) [.Assign [.Subscript (.Subscript (.Name (nm x) p5) (.Constant (.str (nm y)) k2 p6) p7) (.Name (nm n_k) p8) p9] (.Subscript (.Subscript (.Name (nm u) p10) (.Constant (.str (nm v)) k3 p11) p12) (.Name (nm n_k) p13) p14) p15] := by
            intro c0 pr vv zs n0 w2 R hp hP sm S st Y hz h0 h1 h2 k
            obtain ⟨k0, x0, hkv, his⟩ := hP
            obtain ⟨kv', e3, a⟩ := hA.get hp
            cases Option.some.inj (hkv.symm.trans e3)
            have e4 : k0 = pr.1 := a.1
            obtain ⟨tu, e5⟩ := a.2
            have e5 : x0 = .str pr.2 tu := e5
            cases e4
            cases e5
            obtain ⟨t, rfl⟩ := Value.isInt_shape his
            have eρ : w2.ρ = w1.ρ := sm.2
            have ecl : w2.cl = w1.cl := sm.3
            refine PyProof.Rows.assign_Name (nameAny S hkn (show lk (delA fr.loc n_k) n_k = none by rw [lk_delA, Nat.beq_refl]; rfl) fun hC sC SC => ?_)
            have keepC : ∀ b o, w2.s.heap.get? b = some o → b ≠ X.env.locals → hC.get? b = some o := fun b o e hb => (sC.2 b hb).trans e
            have nlc : ∀ {b c}, w2.cl b = c → (∀ q : c = X.lc, False) → b ≠ X.env.locals := fun h n q => n (h.symm.trans ((congrArg w2.cl q).trans S.7))
            have lcn : ∀ j, Cl.ob j = X.lc → False := fun j => by unfold Cx.lc; cases X.lm <;> exact (nomatch ·)
            have nl : w2.ρ l ≠ X.env.locals := nlc (by rw [eρ, ecl]; exact cll) (lcn l)
            have ni : w1.ρ i ≠ X.env.locals := nlc (by rw [ecl]; exact ci) (lcn i)
            have nI : w1.s.heap.objs.size ≠ X.env.locals := nlc (by rw [ecl]; exact non) fun q => fr_lc q.symm
            have lI : w2.ρ l ≠ w1.s.heap.objs.size := by rw [eρ]; exact ne cll (nomatch ·)
            have hzC := keepC _ _ hz nl
            have stC := st.2.at' fun o e => keepC _ _ e ni
            have name : ∀ {z d : Nat} {pz : Pos}, X.env.scope.names.lookup (nm z) = some .local → Nat.beq z n_k = false → lk fr.loc z = some (.ref d) → ∀ tk (Q : Value → Shared → Prop) (E : Value → Shared → Prop), Q (.ref (w2.ρ d)) { w2.s with heap := hC, toks := tk } → wpAny X.M X.A (eval (.Name (nm z) pz) X.env) Q E { w2.s with heap := hC, toks := tk } := fun {z d pz} hz hk hl tk Q E q => by
              cases SC.8 z (.ref d) (show lk (delA fr.loc n_k) z = some (.ref d) by rw [lk_delA, hk]; exact hl) with
              | mk lt y' e1 e2 =>
                cases e2
                exact wpAny_Name (wpAny_loadName_local SC.kind hz SC.5 e1 q) (debug_ne z)
            refine put_body SC rfl rfl hkn (z := pr.1) (t0 := t) (tx := pr.2) (one_name (s := nm n_k) (m := w2.me) (b := .int pr.1 t)) (getD hdx fun _ => (nomatch ·)) hy hzC h0 h1 h2 (name hx hkx hxl) (fun Q E q => ?_) fun uu tk => ⟨rfl, ?_⟩
            · refine sub_open rfl (sub_open rfl (name hu hku hul _ _ _ (wpAny_Constant_str fun Q' hQ' => ?_)))
              refine gi_dict (X := X) (getD hdu fun _ => (nomatch ·)) hv (w2.nms X (fun n => if n = nm n_k then some (.int pr.1 t) else w2.me n) hC (w2.s.toks + 1 + 1)) _ _ _ _ (toks SC _) rfl ⟨_, rfl⟩ fun yy t2 dd => hQ' _ _ ?_
              cases dd.1
              refine wpAny_Name (wpAny_loadName_local SC.kind hkn SC.5 (one_name (s := nm n_k) (m := w2.me) (b := .int pr.1 t)) ?_) (debug_ne _)
              intro Q'' hQ''
              have hDC : hC.DictOf (PySem.intKind X.G.prog X.G.w) (w1.ρ i) kvs := stC.dictOf
              show ItemOn X.M X.A E (.ref (w2.ρ i)) _ Q'' _
              rw [eρ]
              exact ⟨"dict", _, slot_dict_getitem.lookup, hDC.typeIs, wpAny_getItem_of (knd := PySem.intKind X.G.prog X.G.w) (k := pr.1) (decide_eq_true rfl) hDC.mapOf (valueAt_nodup stC.nodup hkv) (hQ'' _ _ (q tu _))⟩
            · have sD := Heap.SameBut.update hC (w2.ρ l) (Obj.mapSeq (·.setIfInBounds pr.1.toNat (.str pr.2 uu)))
              have keepD : ∀ b o, w2.s.heap.get? b = some o → b ≠ X.env.locals → b ≠ w2.ρ l → (hC.update (w2.ρ l) (Obj.mapSeq (·.setIfInBounds pr.1.toNat (.str pr.2 uu)))).get? b = some o := fun b o e q1 q2 => (sD.2 b q2).trans (keepC b o e q1)
              have hzD := PySem.IsL.update (h := hC) hzC (·.setIfInBounds pr.1.toNat (.str pr.2 uu))
              have hlD := SS.set_at (so := .dead) hll
              have SD := updS (t := tk) (so' := .dead) SC hlD sD (fun o e => Option.some.inj (hzC.symm.trans e) ▸ listO_soft) (.mk _ hzD trivial trivial) trivial (leN hlD fun _ _ => (nomatch ·)) (SC.hdN hlD fun _ _ => (nomatch ·))
              rw [set_same hlD] at SD
              exact k _ _ uu (Sm.trans .nms .hp) SD ⟨st.1.at fun o e => keepD _ _ e nI (Ne.symm lI), st.2.at' fun o e => keepD _ _ e ni (by rw [eρ]; exact il)⟩ trivial hzD
          exact put_loop (X := X) (w := w1.hp (w1.s.heap.push { cls := .type "dict_keyiterator", data := .fields #[.ref (w1.ρ i), .int 0 0, .int kvs.length 0, .int ep' 0] }) w1.s.toks) (R := fun r s' => match r with | .ok f => Q f s' | .error e => cameBackBy X.M X.A X.env E e s') (fin := ys.map (sval X.G.V)) (os := xs.map (sval X.G.V)) (zs := List.toArray us) (n0 := m0) Wk (fun c h st => let ⟨o, e, _, hd⟩ := st.1; ⟨o, e, .fields hd fun q t z => nomatch z⟩)
            (fun _ _ _ _ _ => trivial) (Nat.lt_of_lt_of_eq hll SS.len_set.symm) turn (fun c v s3 Q E hP hY st hc q => wpAny_pure q) S3 non ⟨⟨_, Heap.get?_push_size _ rfl, rfl, by rw [hA.length]; rfl⟩, hAt.at' fun o e => up _ _ e⟩ trivial (up _ _ eu) (os_of hus.1 r1) (r3 _ (List.Perm.refl _)) (by rw [List.size_toArray, ← hus.1.length]; exact Nat.le_of_ble_eq_true hsz)
            fun w3 zs3 n3 sm S3 hz3 ho3 => k w3 (x1.trans (Nat.le_refl _) (sm.ex (w₁ := w1.hp (w1.s.heap.push { cls := .type "dict_keyiterator", data := .fields #[.ref (w1.ρ i), .int 0 0, .int kvs.length 0, .int ep' 0] }) w1.s.toks) |> fun q => Ex.hp.trans (Nat.le_refl _) q)) (put_end hl r2 S3 hz3 ho3) _ rfl
end
section
variable {k : Nat}
theorem Cs.zero : Cs 0 := fun X _ _ => ⟨fun n c _ e x fr σ _ => .nil, fun n c _ e x fr σ _ => .nil, fun fv args kws fr σ => .nil, fun a args kws fr σ => .nil, fun n c _ _ _ s x fr σ _ => .nil⟩
theorem fu_succ : fu (k + 1) = fu k + 2 := Nat.mul_succ 2 k
theorem ckE_zero {C : Prop} {e : IE} {x : Expr} (h : (ckE P 0 c e x).den G) : C := h.elim
theorem ckS_zero {C : Prop} {e : IS} {x : Stmt} (h : (ckS P 0 c e x).den G) : C := h.elim
end
section
variable {k : Nat} {z y u q : Nat}
theorem nmE {n : Nat} {e : Expr} {C : Expr → Prop} (h : (nmd e n).den G) (K : ∀ p, C (.Name (nm n) p)) : C e := tgE h fun h => show C (.Name (vw e).s (vw e).p) from (isNm_of h.1 : nm n = (vw e).s) ▸ K (vw e).p
theorem s1E {e : Expr} {C : Expr → Prop} (h : (s1d e z y).den G) (K : ∀ p1 k p2 p3, C (.Subscript (.Name (nm z) p1) (.Constant (.str (nm y)) k p2) p3)) : C e :=
  tgE h fun h => nmE (C := fun a => C (.Subscript a (vw e).z (vw e).p)) h.1 fun p1 => tgE (C := fun b => C (.Subscript (.Name (nm z) p1) b (vw e).p)) h.2 fun h => show C (.Subscript (.Name (nm z) p1) (.Constant (.str (vw (vw e).z).s) (vw (vw e).z).m (vw (vw e).z).p) (vw e).p) from (isNm_of h.1 : nm y = (vw (vw e).z).s) ▸ K p1 _ _ _
theorem s2E {n : Nat} {e : Expr} {C : Expr → Prop} (h : (s2d e z y n).den G) (K : ∀ p1 k p2 p3 p4 p5, C (.Subscript (.Subscript (.Name (nm z) p1) (.Constant (.str (nm y)) k p2) p3) (.Name (nm n) p4) p5)) : C e :=
  tgE h fun h => s1E (C := fun a => C (.Subscript a (vw e).z (vw e).p)) h.1 fun p1 k p2 p3 => nmE (C := fun b => C (.Subscript (.Subscript (.Name (nm z) p1) (.Constant (.str (nm y)) k p2) p3) b (vw e).p)) h.2 fun p4 => K p1 k p2 p3 p4 _
theorem feed_ok (Ev : EvR X I 40 c) (sc : X.env.scope = c.sc) {it : IE} {v : SW} (h : (ckFeed (ckE X.P 40) c it z y v).den X.G) : Ok3 (exFeed I X.hd it z y fr σ) fun fl fr' σ' => XT X fr σ (PySem.exec (.For v.y v.z v.a v.b v.p) X.env) fl fr' σ' := by
  rw [emp_of h.1]
  refine tgE (C := fun t => Ok3 (exFeed I X.hd it z y fr σ) fun fl fr' σ' => XT X fr σ (PySem.exec (.For t v.z v.a [] v.p) X.env) fl fr' σ') h.2 fun h => bnE h fun q eq h => bnE h.2 fun t et h2 => bnE h2.2 fun st est h3 => ?_
  show Ok3 (exFeed I X.hd it z y fr σ) fun fl fr' σ' => XT X fr σ (PySem.exec (.For (.Tuple (vw v.y).es (vw v.y).m (vw v.y).p) v.z v.a [] v.p) X.env) fl fr' σ'
  rw [un_of eq, one_of et, one_of est]
  refine nmE (C := fun a => Ok3 (exFeed I X.hd it z y fr σ) fun fl fr' σ' => XT X fr σ (PySem.exec (.For (.Tuple [a, t] (vw v.y).m (vw v.y).p) v.z [st] [] v.p) X.env) fl fr' σ') h.1 fun p1 => ?_
  refine nmE (C := fun a => Ok3 (exFeed I X.hd it z y fr σ) fun fl fr' σ' => XT X fr σ (PySem.exec (.For (.Tuple [.Name (nm n_k) p1, a] (vw v.y).m (vw v.y).p) v.z [st] [] v.p) X.env) fl fr' σ') h2.1 fun p2 => ?_
  refine sgE (C := fun st => Ok3 (exFeed I X.hd it z y fr σ) fun fl fr' σ' => XT X fr σ (PySem.exec (.For (.Tuple [.Name (nm n_k) p1, .Name (nm n_text) p2] (vw v.y).m (vw v.y).p) v.z [st] [] v.p) X.env) fl fr' σ') h3 fun h => bnE h fun l el h => ?_
  show Ok3 (exFeed I X.hd it z y fr σ) fun fl fr' σ' => XT X fr σ (PySem.exec (.For (.Tuple [.Name (nm n_k) p1, .Name (nm n_text) p2] (vw v.y).m (vw v.y).p) v.z [.Assign (sw st).es (sw st).y (sw st).p] [] v.p) X.env) fl fr' σ'
  rw [one_of el]
  refine s2E (C := fun l => Ok3 (exFeed I X.hd it z y fr σ) fun fl fr' σ' => XT X fr σ (PySem.exec (.For (.Tuple [.Name (nm n_k) p1, .Name (nm n_text) p2] (vw v.y).m (vw v.y).p) v.z [.Assign [l] (sw st).y (sw st).p] [] v.p) X.env) fl fr' σ') h.1 fun q1 q2 q3 q4 q5 q6 => ?_
  refine nmE (C := fun l => Ok3 (exFeed I X.hd it z y fr σ) fun fl fr' σ' => XT X fr σ (PySem.exec (.For (.Tuple [.Name (nm n_k) p1, .Name (nm n_text) p2] (vw v.y).m (vw v.y).p) v.z [.Assign [.Subscript (.Subscript (.Name (nm z) q1) (.Constant (.str (nm y)) q2 q3) q4) (.Name (nm n_k) q5) q6] l (sw st).p] [] v.p) X.env) fl fr' σ') h.2.1 fun q7 => ?_
  have k1 : X.env.scope.names.lookup (nm z) = some .free := sc ▸ isKd_of h.2.2.1
  have k2 : X.env.scope.names.lookup (nm n_k) = some .local := sc ▸ isKd_of h.2.2.2.1
  have k3 : X.env.scope.names.lookup (nm n_text) = some .local := sc ▸ isKd_of h.2.2.2.2.1
  refine .wh fun hn => ?_
  have hn' := non_of hn
  exact .okR (hn' ▸ Ev it v.z fr σ h.2.2.2.2.2) fun i σ1 A => .on fun o hi => by
    cases o with
    | apairs j => exact .bind fun c1 hc1 => .onC fun d1 hc => .onR fun d hd' => .onD fun es hd => .bind fun lv hy => .onR fun l hl' => .onL fun xs hl => .wh fun hsz => .then (x := rowDapp j xs σ1.rows) rowDapp_mem fun ys hr => .ret (by
        cases hd'
        cases hl'
        exact ex_feed hn' k1 k2 k3 (ck_pl h.2.2.2.2.2).1 A hi hc1 hc hd hy hl hsz hr)
    | _ => exact .nil
end
section
variable {k : Nat} {z y u q : Nat}
theorem beq_sym {a b : Nat} (h : (!Nat.beq a b) = true) : Nat.beq b a = false := by
  cases e : Nat.beq b a with
  | false => rfl
  | true => rw [Nat.eq_of_beq_eq_true e, Nat.beq_refl] at h; cases h
theorem copy_ok (sc : X.env.scope = c.sc) {v : SW} (h : (ckCopy c z y u q v).den X.G) : Ok3 (exCopy X.hd z y u q fr σ) fun fl fr' σ' => XT X fr σ (PySem.exec (.For v.y v.z v.a v.b v.p) X.env) fl fr' σ' := by
  rw [emp_of h.1]
  refine bnE h.2.2.2 fun st est h3 => ?_
  rw [one_of est]
  refine nmE (C := fun a => Ok3 (exCopy X.hd z y u q fr σ) fun fl fr' σ' => XT X fr σ (PySem.exec (.For a v.z [st] [] v.p) X.env) fl fr' σ') h.2.1 fun p1 => ?_
  refine s1E (C := fun a => Ok3 (exCopy X.hd z y u q fr σ) fun fl fr' σ' => XT X fr σ (PySem.exec (.For (.Name (nm n_k) p1) a [st] [] v.p) X.env) fl fr' σ') h.2.2.1 fun p2 k1 p3 p4 => ?_
  refine sgE (C := fun st => Ok3 (exCopy X.hd z y u q fr σ) fun fl fr' σ' => XT X fr σ (PySem.exec (.For (.Name (nm n_k) p1) (.Subscript (.Name (nm u) p2) (.Constant (.str (nm q)) k1 p3) p4) [st] [] v.p) X.env) fl fr' σ') h3 fun h => bnE h fun l el h => ?_
  show Ok3 (exCopy X.hd z y u q fr σ) fun fl fr' σ' => XT X fr σ (PySem.exec (.For (.Name (nm n_k) p1) (.Subscript (.Name (nm u) p2) (.Constant (.str (nm q)) k1 p3) p4) [.Assign (sw st).es (sw st).y (sw st).p] [] v.p) X.env) fl fr' σ'
  rw [one_of el]
  refine s2E (C := fun l => Ok3 (exCopy X.hd z y u q fr σ) fun fl fr' σ' => XT X fr σ (PySem.exec (.For (.Name (nm n_k) p1) (.Subscript (.Name (nm u) p2) (.Constant (.str (nm q)) k1 p3) p4) [.Assign [l] (sw st).y (sw st).p] [] v.p) X.env) fl fr' σ') h.1 fun q1 q2 q3 q4 q5 q6 => ?_
  refine s2E (C := fun l => Ok3 (exCopy X.hd z y u q fr σ) fun fl fr' σ' => XT X fr σ (PySem.exec (.For (.Name (nm n_k) p1) (.Subscript (.Name (nm u) p2) (.Constant (.str (nm q)) k1 p3) p4) [.Assign [.Subscript (.Subscript (.Name (nm z) q1) (.Constant (.str (nm y)) q2 q3) q4) (.Name (nm n_k) q5) q6] l (sw st).p] [] v.p) X.env) fl fr' σ') h.2.1 fun r1 r2 r3 r4 r5 r6 => ?_
  have j1 : X.env.scope.names.lookup (nm z) = some .local := sc ▸ isKd_of h.2.2.1
  have j2 : X.env.scope.names.lookup (nm u) = some .local := sc ▸ isKd_of h.2.2.2.1
  have j3 : X.env.scope.names.lookup (nm n_k) = some .local := sc ▸ isKd_of h.2.2.2.2.1
  have b := an_bool h.2.2.2.2.2.1
  exact .wh fun hn => .bind fun du hdu => .onR fun du e1 => .bind fun dx hdx => .onR fun dx e2 => .onD fun es hes => .onD fun es' hes' => .bind fun i hi => .onR fun i e3 => .bind fun l hl => .onR fun l e4 => .onA fun j hj => .onL fun xs hxs => .wh fun hsz => .then (x := rowDapp j xs σ.rows) rowDapp_mem fun ys hr => .ret (by
    cases e1
    cases e2
    cases e3
    cases e4
    exact ex_copy (non_of hn) j1 j2 j3 (beq_sym b.1) (beq_sym b.2) hdu hdx hes hes' hi hl hj hxs hsz hr)
theorem Cs.succ (C : Cs k) : Cs (k + 1) := fun X hy hk => by
  have hk2 : fu k + 2 ≤ X.n := fu_succ ▸ hk
  refine ⟨fun n c EO e x fr σ h => ?_, fun n c EO e x fr σ h => ?_, fun fv args kws fr σ => call1_ok C hy hk2, fun a args kws fr σ => callT_ok C hy (Nat.le_of_succ_le hk2), fun n c EO hc hfe s x fr σ h => ?_⟩
  · cases n with
    | zero => exact ckE_zero h
    | succ n => exact ev1_ok ⟨C, hy, hk2, EO⟩ h
  · cases n with
    | zero => exact ckE_zero h
    | succ n => exact tst1_ok ⟨C, hy, hk2, EO⟩ h
  · cases n with
    | zero => exact ckS_zero h
    | succ n => exact exec1_ok ⟨C, hy, hk2, EO⟩ hc hfe (fun it z y v hf => feed_ok ((Ih.clm ⟨C, hy, hk2, EO⟩).1 40 c EO) EO.1 hf) (fun z y u q v hf => copy_ok EO.1 hf) h
theorem allCs : ∀ k, Cs k
  | 0 => .zero
  | k + 1 => .succ (allCs k)
end
section
variable {K : Frag} {C a g : Nat} {l : List Rq}
theorem beq_ne {a b : Nat} (h : (!Nat.beq a b) = true) : a ≠ b := fun q => by rw [q, Nat.beq_refl] at h; cases h
section
variable {mg mb : PySem.Str → Option Value} {h₁ h : Heap}
noncomputable def names_copied : Bool := (List.range nAttr).all fun a => !copiedNames.contains (nm a)
theorem copied_ok : names_copied = true := by decide +kernel
theorem bs_met (B : Bs P G.mg G.mb G.K l h₁ h) (hc : G.code = codeOf l) (ht : G.tabOf = lk (tabL G.K l)) : (metF P G.K P.funs).den G := by
  have b4 := an_bool (an_bool (an_bool (an_bool B.5).2).2).2
  have b5 := an_bool b4.2
  have b7 := an_bool (an_bool b5.2).2
  exact Fo.run_den B.4 fun r hr => any_of (List.all_eq_true.mp b7.1 r hr) fun t et mt => by
    refine ⟨?_, t, (congrFun ht r.c).trans et, of_decide_eq_true mt⟩
    rw [hc]
    unfold codeOf
    rw [lk_of (l := l.map fun r => (r.k, r.spec)) (by rw [List.map_map]; exact of_decide_eq_true b5.1) (List.mem_map_of_mem (f := fun r => (r.k, r.spec)) hr)]; rfl
theorem bs_hyp (B : Bs P G.mg G.mb G.K l h₁ h) (hc : G.code = codeOf l) (ht : G.tabOf = lk (tabL G.K l)) (str : ∀ j, PyData.strOk (G.V.str j) = true) (lst : ∀ d, (G.V.lst d).length ≤ 1000) : Hyp G P := by
  have b1 := an_bool B.5
  have b2 := an_bool b1.2
  have b3 := an_bool b2.2
  have b6 := an_bool (an_bool (an_bool b3.2).2).2
  have c := an_bool B.6
  have c2 := an_bool c.2
  have cf : (codesF P G.code 0 P.codes).den G := by
    have q := of_decide_eq_true b6.1
    obtain ⟨m, e, n⟩ := Option.map_eq_some_iff.mp q
    rw [hc]
    exact Fo.run_den e fun r hr => by rw [List.length_eq_zero_iff.mp n] at hr; cases hr
  refine ⟨pk_of b1.1 b2.1 c.1 copied_ok c2.1 b3.1 c2.2 str lst, fun a F e => ?_, fun k c e => ?_⟩
  · exact ⟨Nat.eq_of_beq_eq_true (List.find?_some (p := fun f : IFun => Nat.beq f.addr a) e), ckFun_of (met_mem (bs_met B hc ht) F (List.mem_of_find?_eq_some e))⟩
  · exact ckCode_of (Nat.zero_add k ▸ codes_at cf e)
theorem bs_fun (B : Bs P G.mg G.mb G.K l h₁ h) (hc : G.code = codeOf l) (ht : G.tabOf = lk (tabL G.K l)) (a : Nat) (F : IFun) (e : findFun a P.funs = some F) : F.addr = a ∧ ∃ D, ∀ (G' : Gl), G'.K = G.K → G'.code = G.code → G'.tabOf = G.tabOf → G'.mg = G.mg → G'.mb = G.mb → FunOK G' P F D := by
  refine ⟨Nat.eq_of_beq_eq_true (List.find?_some (p := fun f : IFun => Nat.beq f.addr a) e), ?_⟩
  have m := List.mem_of_find?_eq_some e
  refine bnE (met_mem (bs_met B hc ht) F m) fun o ho q => bnE q fun D hD _ => ⟨D, fun G' e1 e2 e3 e4 e5 => ?_⟩
  have z := met_mem (bs_met (G := G') (by rw [e1, e4, e5]; exact B) (e2.trans hc) (by rw [e1]; exact e3.trans ht)) F m
  rw [← e1] at ho hD
  unfold ckFun at z
  rw [ho] at z
  refine fun_of ho hD ?_
  have z : (bn (fdOf G'.K o) fun D => .wh (funB G'.K F D) (ckSs (ckS P 40) ⟨D.scope, D.qual ++ ".<locals>.", codeA D.cdv, false⟩ F.body D.body)).den G' := z
  rw [hD] at z
  exact z
theorem bs_tf (B : Bs P G.mg G.mb G.K l h₁ h) (ht : G.tabOf = lk (tabL G.K l)) {base : Heap} (X : G.K.In base) (pm : (G.mg "__name__").getD .none = G.pm) : TF G ((tabL G.K l).map (·.2)) base := by
  have b4 := an_bool (an_bool (an_bool (an_bool B.5).2).2).2
  have b8 := an_bool (an_bool (an_bool (an_bool b4.2).2).2).2
  have b9 := an_bool b8.2
  have at1 := fun e he => an_bool (List.all_eq_true.mp b8.1 e he)
  refine ⟨List.pairwise_map.mpr (of_decide_eq_true b9.1), fun c t e => ?_, fun t ht q hq q' hq' e1 e2 => ?_, ?_, pm⟩
  · have m := lk_mem ((congrFun ht c).symm.trans e)
    exact ⟨List.mem_map_of_mem (f := (·.2)) m, any_of (at1 _ m).1 fun o eo b => hd_of (X _ _ eo) b⟩
  · obtain ⟨e, he, q3⟩ := List.mem_map.mp ht
    cases q3
    have z := List.all_eq_true.mp (List.all_eq_true.mp (an_bool (at1 _ he).2).1 q hq) q' hq'
    rw [e1, e2, Nat.beq_refl, Nat.beq_refl] at z
    exact of_decide_eq_true z
  · exact any_of b4.1 fun bm e b => by
      have c1 := an_bool b
      have c2 := an_bool c1.2
      obtain ⟨v, hv, ev⟩ := Option.bind_eq_some_iff.mp e
      cases codeA_of ev
      exact any_of c2.2 fun o eo b => by
        have d1 := an_bool b
        have d2 := an_bool d1.2
        refine ⟨bm, o, hv, beq_ne c1.1, beq_ne c2.1, X _ _ eo, of_decide_eq_true d1.1, of_decide_eq_true d2.1, ?_⟩
        obtain ⟨c, d, x, s⟩ := o
        cases x with
        | plain => rfl
        | _ => cases d2.2
theorem bs_tabs (B : Bs P mg mb K l h₁ h) : ∀ t ∈ (tabL K l).map (·.2), h.get? t.P = some (tabObj #[]) ∧ K.lookup t.P = none := fun t ht => by
  have b8 := an_bool (an_bool (an_bool (an_bool (an_bool (an_bool (an_bool (an_bool B.5).2).2).2).2).2).2).2
  obtain ⟨e, he, q⟩ := List.mem_map.mp ht
  cases q
  have z := an_bool (an_bool (an_bool (List.all_eq_true.mp b8.1 e he)).2).2
  exact ⟨any_of z.1 fun o eo b => B.7 _ _ (empB_of b ▸ eo), non_of z.2⟩
end
end
end
end Mine
namespace Mine
noncomputable def lets (b n : Nat) : List SV := (List.range n).map fun i => .sstr (b + i)
structure Mu where
  inn : Bool
  und : Bool
  wr : Bool
  pl : Bool
noncomputable def Mu.snapped (m : Mu) : Bool := m.inn && m.und
noncomputable def txnObjs (b : Nat) : List SObj := [
  .inst 556 (b + 1),
  .dict [(n_status, .cstr n_Active 427), (n__resources, .ref (b + 2)), (n__synchronizers, .ref 8), (n__manager, .ref 6), (n__adapters, .ref (b + 3)), (n__voted, .ref (b + 4)), (n_extension, .ref (b + 5)), (n__failure_traceback, .none), (n__before_commit, .ref (b + 6)), (n__after_commit, .ref (b + 7)), (n__before_abort, .ref (b + 8)), (n__after_abort, .ref (b + 9))],
  .list [], .dict [], .list [], .dict [], .list [], .list [], .list [], .list []]
noncomputable def clientObjs (m : Mu) (lg du : List SV) : List SObj :=
  let sn := if m.und then 35 else 25
  let w : SObj := if m.wr then .adict 0 else .dict []
  [ .dict [(n_owner, .ref 6), (n_log, .ref 11), (n_snap, if m.snapped then .ref sn else .opq 1), (n_wrote, .ref 12), (n_manager, .ref 13), (n_cache, .ref 16)],
    .inst 828 7,
    .dict [(n_explicit, .bool false), (n__txn, if m.und then .ref 25 else .none), (n__synchs, .ref 8)],
    .inst 177 9, .dict [(n_data, .ref 10)], .list (if m.inn then [.ref 16] else []),
    .list lg, w,
    .inst 967 14, .dict [(n_who, .str n_m), (n_key, .int 0), (n_plan, .ref 15), (n_log, .ref 11), (n_deed, .ref 19), (n_kept, .opq 3), (n_value, .opq 4), (n_ready, .none)],
    .dict (if m.pl then [(n_commit, .int 1)] else []),
    .inst 1000 17, .dict [(n_who, .str n_c), (n_plan, .ref 18), (n_log, .ref 11), (n_deed, .ref 19)], .dict [],
    .fn 6 [(n_world, 20), (n_c, 21)], .cell (some (.ref 0)), .cell (some (.sint 1)),
    .dict [(n_in, .bool m.inn), (n_under, .bool m.und), (n_snap, if m.snapped then .ref (sn + 1) else .opq 2), (n_wrote, .ref 24), (n_due, .ref 23), (n_phase, .opq 5)],
    .list du, w ]
  ++ (if m.und then txnObjs 25 else []) ++ (if m.snapped then [.list (lets 10 4), .list (lets 10 4)] else [])
noncomputable def worldObjs : List SObj := [
  .dict [(n_source, .ref 1), (n_plain, .ref 2), (n_clients, .ref 3), (n_own, .ref 4), (n_count, .sint 5)],
  .list (lets 0 4), .list (lets 0 4), .alist 0, .alist 1]
noncomputable def rows (k : Nat) : List Row := [
  .llen 0 (.sint 2), .iop 4 (.sint 0) (.sint 2) (.sint 1), .iop 3 (.sint 0) (.int 3) (.sint 3), .iop 3 (.sint 0) (.int 24) (.sint 4), .lget 0 (.sint 1) (.ref 5), .lget 1 (.sint 1) (.ref 22)] ++ (match k with
  | 0 => [.iop 4 (.sint 3) (.int 8) (.int 0)]
  | 1 => [.iop 4 (.sint 3) (.int 8) (.int 1)]
  | 2 => [.iop 4 (.sint 3) (.int 8) (.sint 9), .icmp 2 (.sint 9) (.int 0) false, .icmp 2 (.sint 9) (.int 1) false, .icmp 6 (.sint 9) (.int 4) true, .icmp 2 (.sint 9) (.int 4) false, .icmp 2 (.sint 9) (.int 5) false, .icmp 2 (.sint 9) (.int 6) false, .icmp 2 (.sint 9) (.int 7) false]
  | 3 => [.iop 4 (.sint 3) (.int 8) (.int 4), .iop 2 (.sint 4) (.int 0) (.int 0)]
  | 4 => [.iop 4 (.sint 3) (.int 8) (.int 5)]
  | 5 => [.iop 4 (.sint 3) (.int 8) (.int 6)]
  | 6 => [.iop 4 (.sint 3) (.int 8) (.int 7), .iop 4 (.sint 4) (.int 2) (.int 1)]
  | 7 => [.iop 4 (.sint 3) (.int 8) (.int 7), .iop 4 (.sint 4) (.int 2) (.int 0), .iop 2 (.sint 4) (.int 1) (.sint 4), .iop 4 (.sint 4) (.int 4) (.int 0)]
  | _ => [.iop 4 (.sint 3) (.int 8) (.int 7), .iop 4 (.sint 4) (.int 2) (.int 0), .iop 2 (.sint 4) (.int 1) (.sint 4), .iop 4 (.sint 4) (.int 4) (.int 2)]) ++ [
  .iop 4 (.sint 4) (.int 4) (.sint 8), .iop 0 (.sint 5) (.int 1) (.sint 6), .itos (.sint 6) (.sstr 50), .cat (.str n_w) (.sstr 50) (.sstr 51),
  .dput none (.sint 8) (.sstr 51) 1, .dput (some 0) (.sint 8) (.sstr 51) 2, .dlen 0 (.sint 7), .icmp 7 (.sint 7) (.int 0) true, .dapp 0 (lets 0 4) (lets 40 4)]
noncomputable def rowsS : List Row := [.lget 0 (.sint 1) (.ref 5), .lget 1 (.sint 1) (.ref 22)] ++ ((List.range 4).map fun k => .dget 0 (.int k) (.sstr (10 + k)) (.sstr (20 + k)))
abbrev LL := List (Nat × Nat)
noncomputable def refs (b n : Nat) : List SV := (List.range n).map fun i => .ref (b + i)
noncomputable def tupObjs (L : LL) : List SObj := L.map fun p => .tup [.str p.1, .str p.2]
noncomputable def objsOf (m : Mu) (L : LL) : List SObj :=
  let b := 5 + (clientObjs m [] []).length
  worldObjs ++ clientObjs m (refs b L.length) (refs (b + L.length) L.length) ++ tupObjs L ++ tupObjs L
noncomputable def stt (m : Mu) (L : LL) (rs : List Row) : SS := ⟨objsOf m L, rs⟩
structure EM where
  ids : List (Nat × Nat)
  ss : List (Nat × SV)
  is : List (Nat × SV)
  d : Option Nat
  ls : List (Nat × List Nat)
noncomputable def mV (m : EM) (a b : SV) : Option EM := match a, b with
  | .ref i, .ref j => match lk m.ids i with | some _ => some m | none => some { m with ids := m.ids ++ [(i, j)] }
  | .sstr i, _ => (match lk m.ss i with | some _ => some m | none => some { m with ss := m.ss ++ [(i, b)] })
  | .sint i, _ => (match lk m.is i with | some _ => some m | none => some { m with is := m.is ++ [(i, b)] })
  | _, _ => some m
noncomputable def mVs (m : EM) : List SV → List SV → Option EM
  | [], [] => some m
  | a :: r, b :: s => (mV m a b).bind fun m => mVs m r s
  | _, _ => none
noncomputable def mEs (m : EM) : List (Nat × SV) → List (Nat × SV) → Option EM
  | [], [] => some m
  | (_, a) :: r, (_, b) :: s => (mV m a b).bind fun m => mEs m r s
  | _, _ => none
noncomputable def mCs (m : EM) : List (Nat × Nat) → List (Nat × Nat) → Option EM
  | [], [] => some m
  | (_, a) :: r, (_, b) :: s => (mV m (.ref a) (.ref b)).bind fun m => mCs m r s
  | _, _ => none
noncomputable def mO (m : EM) (a b : SObj) : Option EM := match a, b with
  | .list xs, .list ys => mVs m xs ys
  | .tup xs, .tup ys => mVs m xs ys
  | .dict xs, .dict ys => mEs m xs ys
  | .adict _, .adict j => some { m with d := some j }
  | .inst _ d, .inst _ e => mV m (.ref d) (.ref e)
  | .cell (some v), .cell (some w) => mV m v w
  | .fn _ cs, .fn _ ds => mCs m cs ds
  | _, _ => some m
noncomputable def mAll (t s : List SObj) : Nat → Nat → EM → Option EM
  | 0, _, _ => none
  | n + 1, i, m => match m.ids[i]? with
    | none => some m
    | some (a, b) => match t[a]?, s[b]? with
      | some x, some y => (mO m x y).bind fun m => mAll t s n (i + 1) m
      | _, _ => none
noncomputable def emb (t s : List SObj) (a b c : Nat) : Option EM := mAll t s 200 0 ⟨[(0, 0), (1, 1), (2, 2), (3, 3), (4, 4), (5, a), (22, b), (6, c)], [], [], none, []⟩
noncomputable def emV (m : EM) (a b : SV) : Bool := a.sel (SV.eqb a b) (sint' := fun i => (lk m.is i).any fun v => SV.eqb v b) (sstr' := fun i => (lk m.ss i).any fun v => SV.eqb v b) (ref' := fun i => b.sel false (ref' := fun j => (lk m.ids i).any fun k => Nat.beq k j)) (opq' := fun _ => true)
noncomputable def emL {α β : Type} (r : α → β → Bool) (l : List α) : List β → Bool := l.foldr (fun a k m => match m with | [] => false | b :: m => r a b && k m) fun m => m.isEmpty
noncomputable def emO (m : EM) (a b : SObj) : Bool := a.sel false (list' := fun xs => b.sel false (list' := fun ys => emL (emV m) xs ys)) (tup' := fun xs => b.sel false (tup' := fun ys => emL (emV m) xs ys)) (dict' := fun xs => b.sel false (dict' := fun ys => emL (fun e f => Nat.beq e.1 f.1 && emV m e.2 f.2) xs ys))
  (adict' := fun i => b.sel false (adict' := fun j => Nat.beq i 0 && m.d.any fun k => Nat.beq k j)) (alist' := fun i => b.sel false (alist' := fun j => Nat.beq i j && (lk m.ls i).isNone) (list' := fun xs => (lk m.ls i).any fun js => eqVs xs (js.map .ref))) (inst' := fun C d => b.sel false (inst' := fun D e => Nat.beq C D && emV m (.ref d) (.ref e)))
  (cell' := fun v => b.sel false (cell' := fun u => v.any fun v => u.any fun u => emV m v u)) (pin' := b.sel false (pin' := true)) (fn' := fun k cs => b.sel false (fn' := fun l ds => Nat.beq k l && emL (fun e f => Nat.beq e.1 f.1 && emV m (.ref e.2) (.ref f.2)) cs ds))
noncomputable def emAll (m : EM) (s : List SObj) (t : List SObj) : Nat → Bool := t.foldr (fun a r i => ((lk m.ids i).any fun j => (s[j]?).any fun b => emO m a b) && r (i + 1)) fun _ => true
noncomputable def okS (v : SV) : Bool := match v with | .sstr _ => true | .str n => Nat.blt n 190 | _ => false
noncomputable def okI (v : SV) : Bool := match v with | .sint _ => true | .int _ => true | _ => false
noncomputable def ndB (l : List Nat) : Bool := decide l.Nodup
noncomputable def ckE' (m : EM) (t s : List SObj) : Bool := emAll m s t 0 && (ndB ((List.range t.length).filterMap (lk m.ids)) && (m.ss.all (fun e => okS e.2) && (m.is.all (fun e => okI e.2) && m.ls.isEmpty)))
noncomputable def oAt (s : List SObj) (i : Nat) : Option SObj := s[i]?
noncomputable def boolAt (s : List SObj) (i n : Nat) : Option Bool := match oAt s i with | some (.dict es) => (match lk es n with | some (.bool b) => some b | _ => none) | _ => none
noncomputable def muOf (s : List SObj) : Option Mu := match boolAt s 22 n_in, boolAt s 22 n_under, oAt s 22, oAt s 14 with
  | some a, some b, some (.dict es), some (.dict fs) => (match lk es n_wrote, lk fs n_plan with
    | some (.ref w), some (.ref p) => (match oAt s w, oAt s p with
      | some (.adict _), some (.dict q) => some ⟨a, b, true, !q.isEmpty⟩
      | some (.dict _), some (.dict q) => some ⟨a, b, false, !q.isEmpty⟩
      | _, _ => none)
    | _, _ => none)
  | _, _, _, _ => none
noncomputable def pairsOf (s : List SObj) : List SV → LL
  | [] => []
  | .ref i :: r => (match oAt s i with | some (.tup [.str a, .str b]) => (a, b) :: pairsOf s r | _ => pairsOf s r)
  | _ :: r => pairsOf s r
noncomputable def logOf (s : List SObj) : LL := match oAt s 11 with | some (.list l) => pairsOf s l | _ => []
noncomputable def FU : Nat := 150
noncomputable def mus : List Mu := [⟨false, false, false, false⟩, ⟨false, true, false, false⟩, ⟨true, false, false, false⟩, ⟨true, true, false, false⟩, ⟨true, true, true, false⟩,
  ⟨false, false, false, true⟩, ⟨false, true, false, true⟩, ⟨true, false, false, true⟩, ⟨true, true, false, true⟩, ⟨true, true, true, true⟩]
noncomputable def reach : List (Mu × LL) := [
  (⟨false, true, false, false⟩, []), (⟨false, false, false, false⟩, []), (⟨true, false, false, false⟩, []), (⟨false, false, false, true⟩, []), (⟨true, true, false, false⟩, [(n_newTransaction, n_c)]),
  (⟨true, false, false, false⟩, [(n_beforeCompletion, n_c), (n_afterCompletion, n_c)]), (⟨true, false, false, true⟩, [(n_beforeCompletion, n_c), (n_afterCompletion, n_c)]), (⟨true, true, false, false⟩, [(n_beforeCompletion, n_c), (n_afterCompletion, n_c), (n_newTransaction, n_c)]),
  (⟨true, true, true, false⟩, []), (⟨true, true, false, false⟩, []), (⟨true, true, false, false⟩, [(n_beforeCompletion, n_c), (n_abort, n_m), (n_afterCompletion, n_c), (n_newTransaction, n_c)]),
  (⟨true, false, false, false⟩, [(n_beforeCompletion, n_c), (n_tpc_begin, n_m), (n_commit, n_m), (n_tpc_vote, n_m), (n_tpc_finish, n_m), (n_afterCompletion, n_c)]), (⟨true, false, false, false⟩, [(n_beforeCompletion, n_c), (n_abort, n_m), (n_afterCompletion, n_c)]),
  (⟨true, false, false, true⟩, [(n_beforeCompletion, n_c), (n_tpc_begin, n_m), (n_commit, n_m), (n_abort, n_m), (n_tpc_abort, n_m), (n_afterCompletion, n_c), (n_beforeCompletion, n_c), (n_abort, n_m), (n_afterCompletion, n_c)]), (⟨false, true, false, true⟩, []), (⟨true, false, false, true⟩, []),
  (⟨true, true, false, true⟩, [(n_newTransaction, n_c)]), (⟨true, true, false, true⟩, [(n_beforeCompletion, n_c), (n_afterCompletion, n_c), (n_newTransaction, n_c)]), (⟨true, true, true, true⟩, []), (⟨true, true, false, true⟩, []),
  (⟨true, true, false, true⟩, [(n_beforeCompletion, n_c), (n_abort, n_m), (n_afterCompletion, n_c), (n_newTransaction, n_c)]), (⟨true, false, false, true⟩, [(n_beforeCompletion, n_c), (n_abort, n_m), (n_afterCompletion, n_c)])]
noncomputable def eqM (a b : Mu) : Bool := (a.inn == b.inn) && ((a.und == b.und) && ((a.wr == b.wr) && (a.pl == b.pl)))
noncomputable def eqL (a b : LL) : Bool := decide (a = b)
noncomputable def inReach (m : Mu) (L : LL) : Bool := reach.any fun x => eqM x.1 m && eqL x.2 L
noncomputable def idAt (e : EM) (i : Nat) : Bool := (lk e.ids i).any fun j => Nat.beq i j
noncomputable def okEM (e : EM) : Bool := (List.range 5 ++ [5, 22]).all (idAt e) && ((lk e.is 1).any (fun v => SV.eqb v (.sint 1)) && ((lk e.is 5).any (fun v => SV.eqb v (.sint 5) || SV.eqb v (.sint 6)) && e.d.all fun k => Nat.blt k 3))
noncomputable def land (m : Mu) (L : LL) (s : List SObj) : Option EM := (emb (objsOf m L) s 5 22 6).bind fun e => wh (ckE' e (objsOf m L) s && (okEM e && inReach m L)) (some e)
noncomputable def topBody (a : Nat) : List IS := match findFun a funs with | some F => F.body | none => []
noncomputable def isTrueV (fl : Fl) : Bool := fl.sel false (ret' := fun v => SV.eqb v (.bool true))
noncomputable def turnB (m : Mu) (k : Nat) : Bool := (execs (run prog FU) none (topBody 1058) ⟨[(n_world, .ref 0), (n_number, .sint 0)], []⟩ (stt m [] (rows k))).any fun q => isTrueV q.1 && (muOf q.2.2.objs).any fun m' => (land m' (logOf q.2.2.objs) q.2.2.objs).isSome
noncomputable def lookO (m : Mu) (L : LL) : List SObj := (objsOf m L).set 19 .pin
noncomputable def exO (x : List SObj) : List SObj := .cell none :: .cell none :: x
noncomputable def isCell (o : SObj) : Bool := o.sel false (cell' := fun _ => true)
noncomputable def exOK (n : Nat) (s : List SObj) : Bool := (s[n]?).any isCell && (s[n + 1]?).any isCell
noncomputable def lookS (m : Mu) (L : LL) (x : List SObj) (rs : List Row) : SS := ⟨lookO m L ++ exO x, rs⟩
noncomputable def idl (n : Nat) : List (Nat × Nat) := (List.range n).map fun i => (i, i)
noncomputable def idE (n : Nat) : EM := ⟨idl n, [(0, .sstr 0), (1, .sstr 1), (2, .sstr 2), (3, .sstr 3), (10, .sstr 10), (11, .sstr 11), (12, .sstr 12), (13, .sstr 13)], [(1, .sint 1), (5, .sint 5)], some 0, []⟩
noncomputable def landI (m : Mu) (L : LL) (n : Nat) (s : List SObj) : Bool := Nat.ble (objsOf m L).length n && (emAll (idE (objsOf m L).length) s (lookO m L) 0 && (inReach m L && exOK n s))
noncomputable def seenCel (n : Nat) : List (Nat × Nat) := [(n_own, n + 1), (n_client, n)]
noncomputable def seenIt : IE := match topBody 1070 with | .for_ _ it _ :: _ => it | _ => .bad
noncomputable def seenBody : List IS := match topBody 1070 with | .for_ _ _ b :: _ => b | _ => []
noncomputable def seenRet : List IS := (topBody 1070).drop 1
noncomputable def isRng (n : Nat) (o : SObj) : Bool := o.sel false (rng' := fun a b => decide (a = 0) && decide (b = (n : Int)))
noncomputable def itB (N : Nat) (m : Mu) (L : LL) : Bool := ((run prog FU).ev seenIt none ⟨[(n_world, .ref 0)], seenCel (objsOf m L).length⟩ (lookS m L [] [.llen 0 (.int N)])).any fun q => match q.1 with
  | .ok v => v.sel false (ref' := fun i => (q.2.objs[i]?).any (isRng N) && landI m L (objsOf m L).length q.2.objs)
  | .exc _ => false
noncomputable def isNext (fl : Fl) : Bool := fl.sel false (next' := true)
noncomputable def bodyQ (a b : Int) (m : Mu) (L : LL) : Option SObj := (execs (run prog FU) none seenBody ⟨[(n_world, .ref 0), (n_c, .sint 1)], seenCel (objsOf m L).length⟩ (lookS m L [.riter a b] rowsS)).bind fun q => wh (isNext q.1 && ((lk q.2.1.loc n_world).any (fun v => SV.eqb v (.ref 0)) && landI m [] (objsOf m L).length q.2.2.objs)) (q.2.2.objs[(objsOf m L).length + 2]?)
noncomputable def retB (a b : Int) (m : Mu) : Bool := (execs (run prog FU) none seenRet ⟨[(n_world, .ref 0)], seenCel (objsOf m []).length⟩ (lookS m [] [.riter a b] rowsS)).any fun q => isTrueV q.1 && landI m [] (objsOf m []).length q.2.2.objs
noncomputable def rows0 (b : Nat) : List Row := [.lget 2 (.int 0) (.sint 0), .iop 4 (.sint 0) (.int 2) (.int b)]
noncomputable def mu0 : Mu := ⟨true, false, false, false⟩
noncomputable def refsOf (l : List SV) : List Nat := l.foldr (fun v r => v.sel r (ref' := fun i => i :: r)) []
noncomputable def listAt (s : List SObj) (i : Nat) : List Nat := (s[i]?).elim [] fun o => o.sel [] (list' := refsOf)
noncomputable def emI (s : List SObj) (a b : Nat) : Option EM := (s[a]?).bind fun o => o.sel none (dict' := fun es => (lk es n_owner).bind fun v => v.sel none (ref' := fun c => mAll (objsOf mu0 []) s 200 0 ⟨[(0, 1), (1, 2), (2, 3), (3, 4), (4, 5), (5, a), (22, b), (6, c)], [], [], none, [(0, listAt s 4), (1, listAt s 5)]⟩))
noncomputable def okI0 (s : List SObj) (c a b : Nat) (e : EM) : Bool := emAll e s (objsOf mu0 []) 0 && (e.ss.all (fun e => okS e.2) && (e.is.all (fun e => okI e.2) && ((List.range 5).all (fun i => (lk e.ids i).any (Nat.beq (i + 1))) && ((lk e.ids 5).any (Nat.beq a) && ((lk e.ids 22).any (Nat.beq b)
  && ((lk e.is 1).any (fun v => SV.eqb v (.int c)) && ((lk e.is 5).any (fun v => SV.eqb v (.int 0)) && (e.d.isNone && decide (e.ls = [(0, listAt s 4), (1, listAt s 5)])))))))))
noncomputable def emC (s : List SObj) (c : Nat) : Option EM := ((listAt s 4)[c]?).bind fun a => ((listAt s 5)[c]?).bind fun b => (emI s a b).bind fun e => wh (okI0 s c a b e) (some e)
noncomputable def gI (s : List SObj) (n : Nat) : List (Nat × (Nat × Nat)) := (List.range 5).map (fun i => (i + 1, 0, i)) ++ (List.range n).flatMap fun c => (emC s c).elim [] fun e => ((List.range (objsOf mu0 []).length).filter (Nat.ble 5)).filterMap fun i => (lk e.ids i).map fun j => (j, c + 1, i)
noncomputable def initB (b : Nat) : Bool := (execs (run prog FU) none lawIR ⟨[(n_numbers, .ref 0)], []⟩ ⟨[.alist 2], rows0 b⟩).any fun q => isNext q.1 && ((lk q.2.1.loc n_world).any (fun v => SV.eqb v (.ref 1)) && ((lk q.2.1.loc n_numbers).any (fun v => SV.eqb v (.ref 0)) && ((q.2.2.objs[0]?).any (fun o => o.sel false (alist' := Nat.beq 2))
  && (Nat.beq (listAt q.2.2.objs 4).length (b + 2) && (Nat.beq (listAt q.2.2.objs 5).length (b + 2) && ((List.range (b + 2)).all (fun c => (emC q.2.2.objs c).isSome) && decide ((gI q.2.2.objs (b + 2)).map (·.1)).Nodup))))))
noncomputable def lookB (m : Mu) (L : LL) : Bool := itB 2 m L && itB 3 m L
end Mine
namespace Mine
theorem turn0 : (List.range 9).all (turnB ⟨false, false, false, false⟩) = true := by decide +kernel
theorem turn1 : (List.range 9).all (turnB ⟨false, true, false, false⟩) = true := by decide +kernel
theorem turn2 : (List.range 9).all (turnB ⟨true, false, false, false⟩) = true := by decide +kernel
theorem turn3 : (List.range 9).all (turnB ⟨true, true, false, false⟩) = true := by decide +kernel
theorem turn4 : (List.range 9).all (turnB ⟨true, true, true, false⟩) = true := by decide +kernel
theorem turn5 : (List.range 9).all (turnB ⟨false, false, false, true⟩) = true := by decide +kernel
theorem turn6 : (List.range 9).all (turnB ⟨false, true, false, true⟩) = true := by decide +kernel
theorem turn7 : (List.range 9).all (turnB ⟨true, false, false, true⟩) = true := by decide +kernel
theorem turn8 : (List.range 9).all (turnB ⟨true, true, false, true⟩) = true := by decide +kernel
theorem turn9 : (List.range 9).all (turnB ⟨true, true, true, true⟩) = true := by decide +kernel
theorem look0 : reach.all (fun x => lookB x.1 x.2) = true := by decide +kernel
theorem bodies (a b : Int) : (reach.map fun x => bodyQ a b x.1 x.2) = reach.map fun _ => some (.riter a b) := by kernel_rfl
theorem rets (a b : Int) : (mus.map fun m => retB a b m) = mus.map fun _ => true := by kernel_rfl
theorem init0 : initB 0 = true := by decide +kernel
theorem init1 : initB 1 = true := by decide +kernel
end Mine
namespace Mine
theorem turns : mus.all (fun m => (List.range 9).all (turnB m)) = true := by
  unfold mus
  rw [List.all_cons, List.all_cons, List.all_cons, List.all_cons, List.all_cons, List.all_cons, List.all_cons, List.all_cons, List.all_cons, List.all_cons, List.all_nil, turn0, turn1, turn2, turn3, turn4, turn5, turn6, turn7, turn8, turn9]
  rfl
theorem mus0 : reach.all (fun x => match x.2 with | [] => mus.any (fun m => eqM m x.1) | _ => true) = true := by decide +kernel
theorem eqM_of {a b : Mu} (h : eqM a b = true) : a = b := by
  obtain ⟨a1, a2, a3, a4⟩ := a
  obtain ⟨b1, b2, b3, b4⟩ := b
  have h1 := Bool.and_eq_true_iff.mp h
  have h2 := Bool.and_eq_true_iff.mp h1.2
  have h3 := Bool.and_eq_true_iff.mp h2.2
  cases beq_iff_eq.mp h1.1
  cases beq_iff_eq.mp h2.1
  cases beq_iff_eq.mp h3.1
  cases beq_iff_eq.mp h3.2
  rfl
theorem eqL_of {a b : LL} (h : eqL a b = true) : a = b := of_decide_eq_true h
theorem bodyOK {m : Mu} {L : LL} (h : (m, L) ∈ reach) (a b : Int) : bodyQ a b m L = some (.riter a b) := by
  obtain ⟨i, hi, e⟩ := List.getElem_of_mem h
  have q := congrArg (fun l => l[i]?) (bodies a b)
  rw [List.getElem?_map, List.getElem?_map, List.getElem?_eq_getElem hi, e] at q
  exact Option.some.inj q
theorem inReach_of {m : Mu} {L : LL} (h : inReach m L = true) : (m, L) ∈ reach := by
  obtain ⟨x, hx, e⟩ := List.any_eq_true.mp h
  have e := Bool.and_eq_true_iff.mp e
  exact (Prod.ext (eqM_of e.1) (eqL_of e.2) : x = (m, L)) ▸ hx
theorem turnOK {m : Mu} (h : (m, ([] : LL)) ∈ reach) {k : Nat} (hk : k < 9) : turnB m k = true := by
  obtain ⟨x, hx, e⟩ := List.any_eq_true.mp (List.all_eq_true.mp mus0 _ h)
  obtain rfl : x = m := eqM_of e
  exact List.all_eq_true.mp (List.all_eq_true.mp turns x hx) k (List.mem_range.mpr hk)
theorem retOK {m : Mu} (h : (m, ([] : LL)) ∈ reach) (a b : Int) : retB a b m = true := by
  obtain ⟨x, hx, e⟩ := List.any_eq_true.mp (List.all_eq_true.mp mus0 _ h)
  cases eqM_of e
  obtain ⟨i, hi, e⟩ := List.getElem_of_mem hx
  have q := congrArg (fun l => l[i]?) (rets a b)
  rw [List.getElem?_map, List.getElem?_map, List.getElem?_eq_getElem hi, e] at q
  exact Option.some.inj q
theorem lookOK {m : Mu} {L : LL} (h : (m, L) ∈ reach) : lookB m L = true := List.all_eq_true.mp look0 (m, L) h
end Mine
namespace Mine
open PySem PySem.W PyProof.Rows PySem.Calls
section
variable {X : Cx} {I : In} {c : CK} {N : Nat} {fr fr' : SFr} {σ σ' σ₁ σ₂ σ₃ : SS} {w w' : Wd} {V : Val} {ρ : Nat → Addr} {G : Gl} {P : PT}
section
variable {m : EM} {V V' : Val} {ρ ρ' : Nat → Addr} {h h' : Heap} {a : Addr} {p p' : Obj} {n : Nat}
abbrev Gl.fo (G : Gl) (p : Obj) (V : Val) : Gl := { G with pin := p, V := V }
inductive Into (m : EM) (V : Val) (ρ : Nat → Addr) (V' : Val) (ρ' : Nat → Addr) : Prop | mk (id : ∀ i j, lk m.ids i = some j → ρ' i = ρ j) (st : ∀ i v, lk m.ss i = some v → sval V v = some (V'.str i)) (it : ∀ i v, lk m.is i = some v → ival V v = some (V'.int i))
  (dc : ∀ k, m.d = some k → V'.dic 0 = V.dic k) (ls : ∀ i, V'.lst i = (lk m.ls i).elim (V.lst i) fun js => js.map fun j => Value.ref (ρ j))
theorem emL_of {α β : Type} {r : α → β → Bool} {l : List α} : ∀ {m : List β}, emL r l m = true → All2 (fun a b => r a b = true) l m := by
  induction l with
  | nil => intro m h; rw [emp_of h]; exact .nil
  | cons a l ih => intro m h; cases m with
    | nil => cases h
    | cons b m =>
      have q := an_bool (a := r a b) h
      exact .cons q.1 (ih q.2)
theorem All2.comp {α β γ : Type} {R : α → β → Prop} {S : β → γ → Prop} {T : α → γ → Prop} (hT : ∀ a b c, R a b → S b c → T a c) {l : List α} {m : List β} (x : All2 R l m) : ∀ {n : List γ}, All2 S m n → All2 T l n := by
  induction x with
  | nil => intro n y; cases y; exact .nil
  | cons r _ ih => intro n y; cases y with | cons s y => exact .cons (hT _ _ _ r s) (ih y)
theorem Den.to (I : Into m V ρ V' ρ') {a b : SV} {x : Value} (e : emV m a b = true) (d : Den V ρ b x) : Den V' ρ' a x := by
  cases a with
  | opq j => exact den_handed d
  | sstr i =>
    exact any_of e fun v hv e => by
      cases SV.eqb_of e
      exact sval_den (I.2 i _ hv) d
  | sint i =>
    exact any_of e fun v hv e => by
      cases SV.eqb_of e
      exact ival_den (I.3 i _ hv) d
  | ref i => cases b with
    | ref j =>
      exact any_of e fun k hk e => by
        cases Nat.eq_of_beq_eq_true e
        exact (show x = .ref (ρ _) from d).trans (congrArg Value.ref (I.1 i _ hk).symm)
    | _ => cases e
  | _ => cases SV.eqb_of e; exact d
theorem refs_den {js : List Nat} : ∀ {vs : List Value}, All2 (Den V ρ) (js.map .ref) vs → vs = js.map fun j => Value.ref (ρ j) := by
  induction js with
  | nil => intro vs h; cases h; rfl
  | cons j js ih => intro vs h; cases h with | cons d q => rw [ih q, show _ = Value.ref (ρ j) from d]; rfl
theorem cells_to (I : Into m V ρ V' ρ') {cs ds : List (Nat × Nat)} (r : All2 (fun (e f : Nat × Nat) => (Nat.beq e.1 f.1 && emV m (.ref e.2) (.ref f.2)) = true) cs ds) : cellsOf ρ' cs = cellsOf ρ ds := by
  induction r with
  | nil => rfl
  | cons q _ ih =>
    have b := an_bool q
    exact (congr (congrArg List.cons (Prod.ext (congrArg nm (Nat.eq_of_beq_eq_true b.1)) (Value.ref.inj (Den.to (V := V) (V' := V') I b.2 rfl)).symm)) ih : (nm _, ρ' _) :: cellsOf ρ' _ = (nm _, ρ _) :: cellsOf ρ _)
theorem OD.to (I : Into m V ρ V' ρ') {t s : SObj} (e : emO m t s = true) {o : Obj} (x : OD (G.fo p V) ρ s o) : t = .pin ∨ OD (G.fo p' V') ρ' t o := by
  cases t with
  | pin => exact .inl rfl
  | list xs => cases s with
    | list ys => cases x with | mk vs n r => exact .inr (.mk vs n ((emL_of e).comp (fun _ _ _ p q => q.to I p) r))
    | _ => cases e
  | tup xs => cases s with
    | tup ys => cases x with | mk vs n r => exact .inr (.mk vs n ((emL_of e).comp (fun _ _ _ p q => q.to I p) r))
    | _ => cases e
  | dict xs => cases s with
    | dict ys => cases x with | mk kvs d r => exact .inr (.mk kvs d ((emL_of e).comp (fun _ _ _ p q => have b := an_bool p; ⟨q.1.trans (congrArg nm (Nat.eq_of_beq_eq_true b.1).symm), q.2.to I b.2⟩) r))
    | _ => cases e
  | adict i => cases s with
    | adict j =>
      have b := an_bool e
      cases Nat.eq_of_beq_eq_true b.1
      exact any_of b.2 fun k hk q => by
        cases Nat.eq_of_beq_eq_true q
        cases x with | mk kvs d r ne le => exact .inr (.mk kvs d (by show All2 _ (V'.dic 0) kvs; rw [I.4 _ hk]; exact r) ne le)
    | _ => cases e
  | alist i => cases s with
    | alist j =>
      have b := an_bool e
      cases Nat.eq_of_beq_eq_true b.1
      have q := I.5 i
      rw [non_of b.2] at q
      exact .inr (let ⟨n, x⟩ := x; ⟨n, x.trans (congrArg (fun l => listOf (List.toArray l) n) q.symm)⟩)
    | list ys =>
      exact any_of e fun js hk q => by
        cases eqVs_of q
        have q := I.5 i
        rw [hk] at q
        cases x with | mk vs n r => exact .inr ⟨n, congrArg (fun l => listOf (List.toArray l) n) ((refs_den r).trans q.symm)⟩
    | _ => cases e
  | inst C d => cases s with
    | inst D f =>
      have b := an_bool e
      cases Nat.eq_of_beq_eq_true b.1
      exact .inr (x.trans (congrArg (instObj C) (Value.ref.inj (Den.to (V := V) (V' := V') I b.2 rfl))))
    | _ => cases e
  | cell v => cases s with
    | cell u =>
      exact any_of e fun v hv e => any_of e fun u hu e => by
        cases hv
        cases hu
        cases x with | mk x d r => exact .inr (.mk x d (let ⟨y, q, d⟩ := r; ⟨y, q, d.to I e⟩))
    | _ => cases e
  | fn k cs => cases s with
    | fn l ds =>
      have b := an_bool e
      cases Nat.eq_of_beq_eq_true b.1
      have q : cellsOf ρ' cs = cellsOf ρ ds := cells_to I (emL_of b.2)
      cases x with | mk c ct doc => exact .inr (q ▸ FnD.mk (G := G.fo p' V') (ρ := ρ') (k := k) (cs := cs) c ct doc)
    | _ => cases e
  | _ => cases e
noncomputable def kindB (so : SObj) : Bool := so.sel false (list' := fun _ => true) (tup' := fun _ => true) (dict' := fun _ => true) (adict' := fun _ => true) (alist' := fun _ => true) (inst' := fun _ _ => true) (cell' := fun _ => true) (fn' := fun _ _ => true)
noncomputable def FnX (G : Gl) (h : Heap) (so : SObj) (o : Obj) : Prop := so.sel True (fn' := fun k _ => h.CodeRec (codeO o) (G.code k).qual)
inductive OJ (G : Gl) (V : Val) (ρ : Nat → Addr) (h : Heap) (a : Addr) (so : SObj) : Prop | mk (o : Obj) (e : h.get? a = some o) (d : ∀ p, OD (G.fo p V) ρ so o) (x : FnX G h so o) (kb : kindB so = true)
theorem OJ.oi {cl : Addr → Cl} {i : Nat} {so : SObj} (y : OJ G V ρ h a so) : OI (G.fo p V) cl ρ h i a so := by
  cases y with | mk o e d x kb => exact ⟨o, e, d p, by cases so with | fn => exact x | apairs => cases kb | exc => cases kb | _ => trivial⟩
theorem fnx_of {cl : Addr → Cl} {i : Nat} {so : SObj} {o : Obj} (x : OX (G.fo p V) cl h i so o) : FnX G h so o := by cases so with | fn => exact x | _ => trivial
theorem emO_kind {t s : SObj} (e : emO m t s = true) (n : t ≠ .pin) : kindB t = true := by
  cases t with
  | pin => exact absurd rfl n
  | _ => first | rfl | cases e
theorem emO_fnx {t s : SObj} {o : Obj} (e : emO m t s = true) (x : FnX G h s o) : FnX G h t o := by
  cases t with
  | fn k cs => cases s with
    | fn l ds => cases Nat.eq_of_beq_eq_true (an_bool e).1; exact x
    | _ => cases e
  | _ => trivial
theorem OI.land (I : Into m V ρ V' ρ') {cl : Addr → Cl} {i : Nat} {t s : SObj} (e : emO m t s = true) (n : t ≠ .pin) (x : OI (G.fo p V) cl ρ h i a s) : OJ G V' ρ' h a t := by
  cases x with | mk o g d y => exact ⟨o, g, fun p' => (OD.to (p' := p') I e d).resolve_left n, emO_fnx e (fnx_of y), emO_kind e n⟩
theorem OJ.to (I : Into m V ρ V' ρ') {t s : SObj} (e : emO m t s = true) (n : t ≠ .pin) (x : OJ G V ρ h a s) : OJ G V' ρ' h a t := OI.land (p := G.pin) (cl := fun _ => .non) (i := 0) I e n x.oi
noncomputable def NoRec (o : Obj) : Prop := ∀ vs q t, o.data = .fields vs → vs[1]? ≠ some (Value.str q t)
theorem NoRec.dict {o : Obj} {es ep} (h : o.data = .dict es ep) : NoRec o := fun vs q t e => nomatch h.symm.trans e
theorem codeRec_nr {Ch : Addr → Prop} {c : Value} {q : PySem.Str} (hk : ∀ b o, h.get? b = some o → ¬ Ch b → h'.get? b = some o) (hd : ∀ b o, Ch b → h.get? b = some o → NoRec o) (x : h.CodeRec c q) : h'.CodeRec c q := by
  obtain ⟨c', o, vs, t, hc, e', hd', hv⟩ := x
  exact ⟨c', o, vs, t, hc, hk _ _ e' (fun z => hd _ _ z e' _ _ _ hd' hv), hd', hv⟩
theorem OJ.mv {Ch : Addr → Prop} (hk : ∀ b o, h.get? b = some o → ¬ Ch b → h'.get? b = some o) (hd : ∀ b o, Ch b → h.get? b = some o → NoRec o) (ha : ¬ Ch a) {so : SObj} (x : OJ G V ρ h a so) : OJ G V ρ h' a so := by
  cases x with | mk o e d y kb => exact ⟨o, hk _ _ e ha, d, by cases so with | fn => exact codeRec_nr hk hd y | _ => trivial, kb⟩
theorem OJ.ext (hρ : ∀ i, i < n → ρ' i = ρ i) {so : SObj} (hl : so.lt n) (x : OJ G V ρ h a so) : OJ G V ρ' h a so := by
  cases x with | mk o e d y kb => exact ⟨o, e, fun p => (d p).ext hρ hl, y, kb⟩
theorem OJ.ex {so : SObj} (x : OJ G V ρ h a so) : ∃ o, h.get? a = some o := by cases x with | mk o e _ _ _ => exact ⟨o, e⟩
theorem OD.noRec {so : SObj} {o : Obj} (kb : kindB so = true) (x : OD G ρ so o) : NoRec o := fun vs q t e z => by
  cases so with
  | list => cases x; cases e
  | tup => cases x; cases e
  | dict => cases x with | mk kvs d r => cases d; cases e
  | adict => cases x with | mk kvs d r => cases d; cases e
  | alist => obtain ⟨n, x⟩ := x; rw [x] at e; cases e
  | inst => rw [show o = _ from x] at e; cases e
  | cell => cases x with | mk y d r => rw [d] at e; cases e
  | fn => cases x; cases e
  | _ => cases kb
theorem OJ.noRec {so : SObj} (x : OJ G V ρ h a so) {o : Obj} (e : h.get? a = some o) : NoRec o := by
  cases x with | mk o' e' d y kb => exact Option.some.inj (e'.symm.trans e) ▸ (d G.pin).noRec kb
noncomputable def landV (m : EM) (V : Val) (ρ : Nat → Addr) : Val := ⟨fun i => ((lk m.is i).bind (ival V)).getD 0, fun i => ((lk m.ss i).bind (sval V)).getD "", fun _ => m.d.elim [(0, ("" : PySem.Str))] V.dic, fun i => (lk m.ls i).elim (V.lst i) fun js => js.map fun j => Value.ref (ρ j)⟩
noncomputable def landR (m : EM) (ρ : Nat → Addr) (i : Nat) : Addr := (lk m.ids i).elim 0 ρ
theorem sval_okS {v : SV} (e : okS v = true) : ∃ x, sval V v = some x := by cases v <;> first | exact ⟨_, rfl⟩ | cases e
theorem ival_okI {v : SV} (e : okI v = true) : ∃ x, ival V v = some x := by cases v <;> first | exact ⟨_, rfl⟩ | cases e
theorem into_land (hs : m.ss.all (fun e => okS e.2) = true) (hi : m.is.all (fun e => okI e.2) = true) : Into m V ρ (landV m V ρ) (landR m ρ) :=
  ⟨fun i j q => congrArg (fun o => o.elim 0 ρ) q, fun i v q => by
    obtain ⟨x, hx⟩ := sval_okS (V := V) (List.all_eq_true.mp hs _ (lk_mem q))
    exact hx.trans (congrArg some (show x = ((lk m.ss i).bind (sval V)).getD "" from by rw [q]; exact (congrArg (fun o => o.getD "") hx).symm)),
  fun i v q => by
    obtain ⟨x, hx⟩ := ival_okI (V := V) (List.all_eq_true.mp hi _ (lk_mem q))
    exact hx.trans (congrArg some (show x = ((lk m.is i).bind (ival V)).getD 0 from by rw [q]; exact (congrArg (fun o => o.getD 0) hx).symm)),
  fun k q => congrArg (fun o => o.elim [(0, ("" : PySem.Str))] V.dic) q, fun i => rfl⟩
inductive VOK (V : Val) : Prop | mk (str : ∀ j, PyData.strOk (V.str j) = true) (lst : ∀ j, (V.lst j).length ≤ 1000)
theorem nms_ok : (List.range 190).all (fun n => PyData.strOk (nm n)) = true := by decide +kernel
theorem land_vok (hs : m.ss.all (fun e => okS e.2) = true) (hl : ∀ i js, lk m.ls i = some js → js.length ≤ 1000) (hV : VOK V) : VOK (landV m V ρ) := by
  refine ⟨fun j => ?_, fun j => ?_⟩
  · show PyData.strOk (((lk m.ss j).bind (sval V)).getD "") = true
    cases q : lk m.ss j with
    | none => exact show PyData.strOk (Str.ofString "") = true by decide +kernel
    | some v =>
      have := List.all_eq_true.mp hs _ (lk_mem q)
      cases v with
      | sstr k => exact hV.1 k
      | str n => exact List.all_eq_true.mp nms_ok n (List.mem_range.mpr (Nat.le_of_ble_eq_true this))
      | _ => cases this
  · show ((lk m.ls j).elim (V.lst j) fun js => js.map fun j => Value.ref (ρ j)).length ≤ 1000
    cases q : lk m.ls j with
    | none => exact hV.2 j
    | some js => exact Nat.le_trans (Nat.le_of_eq (List.length_map ..)) (hl j js q)
theorem emAll_at {t s : List SObj} : ∀ {i k : Nat} {a : SObj}, emAll m s t i = true → t[k]? = some a → ∃ j b, lk m.ids (i + k) = some j ∧ s[j]? = some b ∧ emO m a b = true := by
  induction t with
  | nil => intro i k a _ h; cases h
  | cons b t ih => intro i k a e h; cases k with
    | zero =>
      cases h
      exact any_of (an_bool e).1 fun j hj e => any_of e fun b hb e => ⟨j, b, hj, hb, e⟩
    | succ k => obtain ⟨j, c, h1, h2⟩ := ih (an_bool e).2 h; exact ⟨j, c, (show i + (k + 1) = i + 1 + k by omega) ▸ h1, h2⟩
end
theorem texts_ok : ((List.range 40).all fun n => PyData.strOk (PySem.Str.ofString (toString (n : Int))) && PyData.strOk (nm n_w ++ PySem.Str.ofString (toString (n : Int))) && Nat.ble ((nm n_w).length + (PySem.Str.ofString (toString (n : Int))).length) 1000) = true := by decide +kernel
theorem text_ok {x : Int} (h0 : 0 ≤ x) (h1 : x < 40) : PyData.strOk (PySem.Str.ofString (toString x)) = true ∧ PyData.strOk (nm n_w ++ PySem.Str.ofString (toString x)) = true ∧ (nm n_w).length + (PySem.Str.ofString (toString x)).length ≤ 1000 := by
  obtain ⟨n, rfl⟩ := Int.eq_ofNat_of_zero_le h0
  have := List.all_eq_true.mp texts_ok n (List.mem_range.mpr (by omega))
  rw [Bool.and_eq_true, Bool.and_eq_true] at this
  exact ⟨this.1.1, this.1.2, Nat.le_of_ble_eq_true this.2⟩
section
variable {d r : List (Int × PySem.Str)} {T : Nat} {k : Int} {t u : PySem.Str}
inductive DOK (T : Nat) (d : List (Int × PySem.Str)) : Prop | mk (nd : (d.map (·.1)).Nodup) (rg : ∀ p ∈ d, 0 ≤ p.1 ∧ p.1 < 4) (ok : ∀ p ∈ d, PyData.strOk p.2 = true) (ne : d ≠ []) (le : d.length ≤ T + 1)
theorem dGet_cons (p : Int × PySem.Str) : dGet (p :: r) k = if p.1 = k then some p.2 else dGet r k := by
  unfold dGet
  rw [List.find?_cons]
  by_cases h : p.1 = k
  · simp [h]
  · simp [h]
theorem dGet_iff : ∀ {d : List (Int × PySem.Str)}, (d.map (·.1)).Nodup → (dGet d k = some t ↔ (k, t) ∈ d)
  | [], _ => by simp [dGet]
  | p :: r, h => by
    rw [List.map_cons, List.nodup_cons] at h
    rw [dGet_cons, List.mem_cons]
    by_cases q : p.1 = k
    · rw [if_pos q]
      constructor
      · intro e; cases e; exact .inl (by rw [← q])
      · rintro (e | e)
        · rw [← e]
        · exact absurd (List.mem_map_of_mem (f := (·.1)) e) (q ▸ h.1)
    · rw [if_neg q, dGet_iff h.2]
      exact ⟨.inr, fun z => z.resolve_left fun e => q (by rw [← e])⟩
theorem dGet_perm {e : List (Int × PySem.Str)} (hp : e.Perm d) (h : (d.map (·.1)).Nodup) : dGet e k = dGet d k := by
  have he : (e.map (·.1)).Nodup := (hp.map _).nodup_iff.mpr h
  cases q : dGet d k with
  | some t => exact (dGet_iff he).mpr (hp.mem_iff.mpr ((dGet_iff h).mp q))
  | none =>
    cases q' : dGet e k with
    | none => rfl
    | some t => rw [(dGet_iff h).mpr (hp.mem_iff.mp ((dGet_iff he).mp q'))] at q; cases q
noncomputable def fA (d : List (Int × PySem.Str)) (k : Int) (x : Option PySem.Str) : Option PySem.Str := match dGet d k with | some t => some t | none => x
theorem fA_cons {p : Int × PySem.Str} {x : Option PySem.Str} : fA (p :: r) k x = if p.1 = k then some p.2 else fA r k x := by
  unfold fA
  rw [dGet_cons]
  by_cases h : p.1 = k
  · rw [if_pos h, if_pos h]
  · rw [if_neg h, if_neg h]
theorem fA_none {p : Int × PySem.Str} (h : ((p :: r).map (·.1)).Nodup) : fA r p.1 (some t) = some t := by
  rw [List.map_cons, List.nodup_cons] at h
  unfold fA
  cases q : dGet r p.1 with
  | none => rfl
  | some u => exact absurd (List.mem_map_of_mem (f := (·.1)) ((dGet_iff h.2).mp q)) h.1
theorem dApp_four : ∀ {d : List (Int × PySem.Str)}, (d.map (·.1)).Nodup → (∀ p ∈ d, 0 ≤ p.1 ∧ p.1 < 4) → ∀ a b c e : Option PySem.Str, dApp d [a, b, c, e] = some [fA d 0 a, fA d 1 b, fA d 2 c, fA d 3 e]
  | [], _, _, a, b, c, e => rfl
  | p :: r, hn, hr, a, b, c, e => by
    have h4 := hr p (.head _)
    have hn' := hn
    rw [List.map_cons, List.nodup_cons] at hn'
    have ih := fun a b c e => dApp_four hn'.2 (fun q hq => hr q (.tail _ hq)) a b c e
    unfold dApp
    rw [if_pos ⟨h4.1, by simpa using h4.2⟩]
    simp only [fA_cons]
    have := fA_none (t := p.2) hn
    obtain ⟨k, t⟩ := p
    dsimp only at h4 this ⊢
    rcases (by omega : k = 0 ∨ k = 1 ∨ k = 2 ∨ k = 3) with rfl | rfl | rfl | rfl
    · show dApp r [some t, b, c, e] = _; rw [ih, this]; rfl
    · show dApp r [a, some t, c, e] = _; rw [ih, this]; rfl
    · show dApp r [a, b, some t, e] = _; rw [ih, this]; rfl
    · show dApp r [a, b, c, some t] = _; rw [ih, this]; rfl
theorem dPut_keys : ∀ {d : List (Int × PySem.Str)}, (dPut d k t).map (·.1) = if k ∈ d.map (·.1) then d.map (·.1) else d.map (·.1) ++ [k]
  | [] => rfl
  | p :: r => by
    unfold dPut
    by_cases h : p.1 = k
    · rw [if_pos h, if_pos (by rw [List.map_cons, h]; exact .head _), List.map_cons, List.map_cons, h]
    · rw [if_neg h, List.map_cons, dPut_keys, List.map_cons]
      by_cases q : k ∈ r.map (·.1)
      · rw [if_pos q, if_pos (.tail _ q)]
      · rw [if_neg q, if_neg (fun z => (List.mem_cons.mp z).elim (fun e => h e.symm) q)]; rfl
theorem dPut_mem : ∀ {d : List (Int × PySem.Str)} {p : Int × PySem.Str}, p ∈ dPut d k t → p = (k, t) ∨ p ∈ d
  | [], p, h => .inl (List.mem_singleton.mp h)
  | q :: r, p, h => by
    unfold dPut at h
    split at h
    · rcases List.mem_cons.mp h with h | h
      · exact .inl h
      · exact .inr (.tail _ h)
    · rcases List.mem_cons.mp h with h | h
      · exact .inr (h ▸ .head _)
      · exact (dPut_mem h).imp id fun z => .tail _ z
theorem DOK.put (D : DOK T d) (h0 : 0 ≤ k) (h1 : k < 4) (ht : PyData.strOk t = true) : DOK (T + 1) (dPut d k t) := by
  refine ⟨?_, fun p hp => ?_, fun p hp => ?_, fun e => ?_, ?_⟩
  · rw [dPut_keys]
    split
    · exact D.1
    · rename_i q
      rw [List.nodup_append]
      exact ⟨D.1, by simp, fun a ha b hb => by rw [List.mem_singleton.mp hb]; exact fun z => q (z ▸ ha)⟩
  · rcases dPut_mem hp with rfl | h
    · exact ⟨h0, h1⟩
    · exact D.2 p h
  · rcases dPut_mem hp with rfl | h
    · exact ht
    · exact D.3 p h
  · have := dPut_keys (k := k) (t := t) (d := d)
    rw [e] at this
    split at this
    · exact D.4 (List.map_eq_nil_iff.mp this.symm)
    · simp at this
  · have := congrArg List.length (dPut_keys (k := k) (t := t) (d := d))
    have hle := D.5
    split at this <;> simp at this <;> omega
theorem DOK.one (h0 : 0 ≤ k) (h1 : k < 4) (ht : PyData.strOk t = true) : DOK T [(k, t)] := by
  refine ⟨by simp, fun p hp => ?_, fun p hp => ?_, by simp, by simp⟩ <;> rw [List.mem_singleton.mp hp]
  · exact ⟨h0, h1⟩
  · exact ht
theorem DOK.mono {T' : Nat} (D : DOK T d) (h : T ≤ T') : DOK T' d := ⟨D.1, D.2, D.3, D.4, Nat.le_trans D.5 (by omega)⟩
theorem dGet_ok (D : DOK T d) {e : PySem.Str} (he : PyData.strOk e = true) : PyData.strOk ((dGet d k).getD e) = true := by
  cases q : dGet d k with
  | none => exact he
  | some t => exact D.3 _ ((dGet_iff D.1).mp q)
end
section
variable {N T c : Nat} {A : Nat → Addr} {Vw CV V' : Val} {num : Int} {n : Nat} {ls : Nat → List Value}
noncomputable def mixV (Vw CV : Val) (num : Int) (c N : Nat) : Val where
  int j := [num, c, N, Int.fdiv num 3, Int.fdiv num 24, Vw.int 5, Vw.int 5 + 1, (CV.dic 0).length, Int.fmod (Int.fdiv num 24) 4, Int.fmod (Int.fdiv num 3) 8].getD j 0
  str j := if j < 4 then Vw.str j else if j < 14 then CV.str j else if j < 24 then (dGet (CV.dic 0) (j - 20 : Nat)).getD (CV.str (j - 10)) else if j < 44 then (dGet (CV.dic 0) (j - 40 : Nat)).getD (Vw.str (j - 40))
    else if j = 50 then PySem.Str.ofString (toString (Vw.int 5 + 1)) else if j = 51 then nm n_w ++ PySem.Str.ofString (toString (Vw.int 5 + 1)) else ""
  dic j := [CV.dic 0, [(Int.fmod (Int.fdiv num 24) 4, nm n_w ++ PySem.Str.ofString (toString (Vw.int 5 + 1)))], dPut (CV.dic 0) (Int.fmod (Int.fdiv num 24) 4) (nm n_w ++ PySem.Str.ofString (toString (Vw.int 5 + 1)))].getD j [(0, "")]
  lst := Vw.lst
noncomputable def idP : EM := ⟨idl 70, [(10, .sstr 10), (11, .sstr 11), (12, .sstr 12), (13, .sstr 13)], [(1, .sint 1)], some 0, []⟩
noncomputable def idW : EM := ⟨idl 5, [(0, .sstr 0), (1, .sstr 1), (2, .sstr 2), (3, .sstr 3)], [(5, .sint 5)], none, []⟩
theorem lk_idl {i j : Nat} (e : lk (idl n) i = some j) : i = j ∧ i < n := by
  obtain ⟨x, hx, q⟩ := List.mem_map.mp (lk_mem e)
  cases q; exact ⟨rfl, List.mem_range.mp hx⟩
theorem priv_ok : reach.all (fun x => emAll idP (objsOf x.1 x.2) ((objsOf x.1 x.2).drop 5) 5 && ((objsOf x.1 x.2).drop 5).all kindB) = true := by decide +kernel
theorem world_ok : (emAll idW worldObjs worldObjs 0 && worldObjs.all kindB) = true := by decide +kernel
theorem lk_all {α : Type} {p : Nat → α → Prop} {l : List (Nat × α)} (h : ∀ e ∈ l, p e.1 e.2) {i : Nat} {v : α} (e : lk l i = some v) : p i v := h _ (lk_mem e)
theorem all_app {α : Type} {l m : List α} {p : α → Prop} (h1 : ∀ x ∈ l, p x) (h2 : ∀ x ∈ m, p x) : ∀ x ∈ l ++ m, p x := fun x hx => (List.mem_append.mp hx).elim (h1 x) (h2 x)
theorem all_cons {α : Type} {a : α} {m : List α} {p : α → Prop} (h1 : p a) (h2 : ∀ x ∈ m, p x) : ∀ x ∈ a :: m, p x := fun x hx => (List.mem_cons.mp hx).elim (fun e => e ▸ h1) (h2 x)
theorem all_nil {α : Type} {p : α → Prop} : ∀ x ∈ ([] : List α), p x := fun _ h => nomatch h
theorem intoP (hc : CV.int 1 = (c : Int)) (hl : CV.lst = Vw.lst) : Into idP CV ρ (mixV Vw CV num c N) ρ :=
  ⟨fun i j e => by cases (lk_idl e).1; rfl, fun i v e => lk_all (p := fun i v => sval CV v = some ((mixV Vw CV num c N).str i)) (all_cons rfl (all_cons rfl (all_cons rfl (all_cons rfl all_nil)))) e,
    fun i v e => lk_all (p := fun i v => ival CV v = some ((mixV Vw CV num c N).int i)) (all_cons (a := ((1 : Nat), SV.sint 1)) (congrArg some hc) all_nil) e, fun k e => by cases e; rfl, fun i => congrFun hl.symm i⟩
theorem intoW (hw : ∀ i, i < 5 → ρ i = A i) : Into idW Vw A (mixV Vw CV num c N) ρ :=
  ⟨fun i j e => by cases (lk_idl e).1; exact hw i (lk_idl e).2, fun i v e => lk_all (p := fun i v => sval Vw v = some ((mixV Vw CV num c N).str i)) (all_cons rfl (all_cons rfl (all_cons rfl (all_cons rfl all_nil)))) e,
    fun i v e => lk_all (p := fun i v => ival Vw v = some ((mixV Vw CV num c N).int i)) (all_cons rfl all_nil) e, fun k e => (nomatch e), fun i => rfl⟩
theorem mix_vok (hV : VOK Vw) (hC : VOK CV) (D : DOK T (CV.dic 0)) (h0 : 0 ≤ Vw.int 5) (h1 : Vw.int 5 < 39) : VOK (mixV Vw CV num c N) := by
  have tx := text_ok (x := Vw.int 5 + 1) (by omega) (by omega)
  have ite : ∀ {p : Prop} [Decidable p] {a b : PySem.Str}, PyData.strOk a = true → PyData.strOk b = true → PyData.strOk (if p then a else b) = true := fun {p _ a b} ha hb => by
    by_cases h : p
    · rw [if_pos h]; exact ha
    · rw [if_neg h]; exact hb
  exact ⟨fun j => ite (hV.1 j) (ite (hC.1 j) (ite (dGet_ok D (hC.1 _)) (ite (dGet_ok D (hV.1 _)) (ite tx.1 (ite tx.2.1 (show PyData.strOk (Str.ofString "") = true by decide +kernel)))))), hV.2⟩
abbrev RW (V : Val) (ρ : Nat → Addr) (n : Nat) (r : Row) : Prop := An (RowOK V ρ r) (r.lt n)
theorem iopOK {o : Nat} {a b r : SV} (x y z : Int) (h1 : ival V a = some x) (h2 : ival V b = some y) (h3 : ival V r = some z) (h4 : iop o x y = some z) (h5 : y ≠ 0) (h6 : -1000 < y) (h7 : y < 1000) : RW V ρ n (.iop o a b r) := ⟨⟨x, y, z, h1, h2, h3, h4, fun _ => h5, h6, h7⟩, trivial⟩
theorem mulOK {a b r : SV} (x y z : Int) (h1 : ival V a = some x) (h2 : ival V b = some y) (h3 : ival V r = some z) (h4 : x * y = z) (h6 : -1000 < y) (h7 : y < 1000) : RW V ρ n (.iop 2 a b r) := ⟨⟨x, y, z, h1, h2, h3, congrArg some h4, fun q => absurd q (by decide), h6, h7⟩, trivial⟩
theorem cmpOK {o : Nat} {a b : SV} {r : Bool} (x y : Int) (h1 : ival V a = some x) (h2 : ival V b = some y) (h3 : icmp o x y = some r) : RW V ρ n (.icmp o a b r) := ⟨⟨x, y, h1, h2, h3⟩, trivial⟩
theorem log2_small {x : Nat} (h : x < 1000) : x.log2 < 1920 := by
  by_cases z : x = 0
  · subst z; decide +kernel
  · exact Nat.lt_of_lt_of_le ((Nat.log2_lt z).mpr (Nat.lt_trans h (by decide : 1000 < 2 ^ 10))) (by decide)
noncomputable def clsOf (num : Int) : Nat := match Int.fmod (Int.fdiv num 3) 8 with
  | 0 => 0 | 1 => 1 | 2 => 2 | 3 => 2 | 4 => 3 | 5 => 4 | 6 => 5 | _ => match Int.fmod (Int.fdiv num 24) 4 with | 0 => 7 | 2 => 8 | _ => 6
theorem lget_ok (hi : V.int 1 = (c : Int)) (hl : V.lst = ls) (hc : c < 1000) (l0 : (ls 0)[c]? = some (.ref (ρ 5))) (l1 : (ls 1)[c]? = some (.ref (ρ 22))) (hn : 22 < n) : An (RW V ρ n (.lget 0 (.sint 1) (.ref 5))) (RW V ρ n (.lget 1 (.sint 1) (.ref 22))) :=
  ⟨⟨⟨c, _, congrArg some hi, hc, hl ▸ l0, rfl⟩, Nat.lt_trans (by decide) hn⟩, ⟨c, _, congrArg some hi, hc, hl ▸ l1, rfl⟩, hn⟩
theorem fmod_rg (x : Int) {k : Int} (h : 0 < k) : 0 ≤ Int.fmod x k ∧ Int.fmod x k < k := ⟨Int.fmod_nonneg_of_pos _ h, Int.fmod_lt_of_pos _ h⟩
theorem dapp_ok (D : DOK T (CV.dic 0)) : RW (mixV Vw CV num c N) ρ n (.dapp 0 (lets 0 4) (lets 40 4)) := by
  refine ⟨⟨all_cons ⟨_, rfl⟩ (all_cons ⟨_, rfl⟩ (all_cons ⟨_, rfl⟩ (all_cons ⟨_, rfl⟩ all_nil))), all_cons ⟨_, rfl⟩ (all_cons ⟨_, rfl⟩ (all_cons ⟨_, rfl⟩ (all_cons ⟨_, rfl⟩ all_nil))), fun ps hp0 => ?_⟩, all_cons trivial (all_cons trivial (all_cons trivial (all_cons trivial all_nil)))⟩
  have hp : ps.Perm (CV.dic 0) := hp0
  have e := dApp_four (d := ps) ((hp.map _).nodup_iff.mpr D.1) (fun p h => D.2 p (hp.mem_iff.mp h)) (some (Vw.str 0)) (some (Vw.str 1)) (some (Vw.str 2)) (some (Vw.str 3))
  have f : ∀ (k : Int) (x : PySem.Str), fA ps k (some x) = some ((dGet (CV.dic 0) k).getD x) := fun k x => by
    unfold fA
    rw [dGet_perm hp D.1]
    cases dGet (CV.dic 0) k <;> rfl
  rw [f, f, f, f] at e
  exact e
theorem rg8 {w : Int} (h : 0 ≤ w ∧ w < 8) : w = 0 ∨ w = 1 ∨ w = 2 ∨ w = 3 ∨ w = 4 ∨ w = 5 ∨ w = 6 ∨ w = 7 := by
  obtain ⟨n, rfl⟩ := Int.eq_ofNat_of_zero_le h.1
  exact (by decide : ∀ n : Nat, n < 8 → ((n : Int) = 0 ∨ (n : Int) = 1 ∨ (n : Int) = 2 ∨ (n : Int) = 3 ∨ (n : Int) = 4 ∨ (n : Int) = 5 ∨ (n : Int) = 6 ∨ (n : Int) = 7)) n (Int.ofNat_lt.mp h.2)
theorem rg4 {w : Int} (h : 0 ≤ w ∧ w < 4) : w = 0 ∨ w = 1 ∨ w = 2 ∨ w = 3 := by
  obtain ⟨n, rfl⟩ := Int.eq_ofNat_of_zero_le h.1
  exact (by decide : ∀ n : Nat, n < 4 → ((n : Int) = 0 ∨ (n : Int) = 1 ∨ (n : Int) = 2 ∨ (n : Int) = 3)) n (Int.ofNat_lt.mp h.2)
theorem rows_ok (D : DOK T (CV.dic 0)) (hc : c < 1000) (l0 : (Vw.lst 0)[c]? = some (.ref (ρ 5))) (l1 : (Vw.lst 1)[c]? = some (.ref (ρ 22))) (hn : 22 < n) (ll : (Vw.lst 0).length = N) (hN : 2 ≤ N) (hN3 : N ≤ 3) (h0 : 0 ≤ Vw.int 5) (h1 : Vw.int 5 < 39) (hT : T ≤ 50) (hcn : Int.fmod num N = (c : Int)) :
    clsOf num < 9 ∧ ∀ r ∈ rows (clsOf num), RW (mixV Vw CV num c N) ρ n r := by
  have lg := lget_ok (n := n) (V := mixV Vw CV num c N) (ρ := ρ) (ls := Vw.lst) (c := c) rfl rfl hc l0 l1 hn
  have tx := text_ok (x := Vw.int 5 + 1) (by omega) (by omega)
  have r4 := fmod_rg (Int.fdiv num 24) (k := 4) (by decide)
  have w8 := fmod_rg (Int.fdiv num 3) (k := 8) (by decide)
  have dput := (D.put r4.1 r4.2 tx.2.1).5
  have hd := all_cons (p := RW (mixV Vw CV num c N) ρ n) (a := Row.llen 0 (.sint 2)) ⟨(congrArg (fun n : Nat => some (n : Int)) ll).symm, trivial⟩ (all_cons (a := Row.iop 4 (.sint 0) (.sint 2) (.sint 1)) (iopOK num N c rfl rfl rfl (congrArg some hcn) (by omega) (by omega) (by omega)) (all_cons (a := Row.iop 3 (.sint 0) (.int 3) (.sint 3)) (iopOK num 3 _ rfl rfl rfl rfl (by decide) (by decide) (by decide))
    (all_cons (a := Row.iop 3 (.sint 0) (.int 24) (.sint 4)) (iopOK num 24 _ rfl rfl rfl rfl (by decide) (by decide) (by decide)) (all_cons lg.1 (all_cons lg.2 all_nil)))))
  have dpos : (0 : Int) < ((CV.dic 0).length : Int) := by cases q : CV.dic 0 with | nil => exact absurd q D.4 | cons _ _ => exact Int.ofNat_lt.mpr (Nat.succ_pos _)
  have tl := all_cons (p := RW (mixV Vw CV num c N) ρ n) (a := Row.iop 4 (.sint 4) (.int 4) (.sint 8)) (iopOK _ 4 _ rfl rfl rfl rfl (by decide) (by decide) (by decide)) (all_cons (a := Row.iop 0 (.sint 5) (.int 1) (.sint 6)) (iopOK _ 1 _ rfl rfl rfl rfl (by decide) (by decide) (by decide)) (all_cons (a := Row.itos (.sint 6) (.sstr 50)) ⟨⟨Vw.int 5 + 1, rfl, rfl, log2_small (by omega)⟩, trivial⟩ (all_cons (a := Row.cat (.str n_w) (.sstr 50) (.sstr 51)) ⟨⟨_, _, rfl, rfl, rfl, tx.2.2⟩, trivial⟩
    (all_cons (a := Row.dput none (.sint 8) (.sstr 51) 1) ⟨⟨_, _, rfl, rfl, rfl, Nat.le_of_ble_eq_true rfl⟩, trivial⟩ (all_cons (a := Row.dput (some 0) (.sint 8) (.sstr 51) 2) ⟨⟨_, _, rfl, rfl, rfl, Nat.le_trans dput (by omega)⟩, trivial⟩ (all_cons (a := Row.dlen 0 (.sint 7)) ⟨rfl, trivial⟩ (all_cons (a := Row.icmp 7 (.sint 7) (.int 0) true) (cmpOK ((CV.dic 0).length : Int) 0 rfl rfl (congrArg some (decide_eq_true dpos))) (all_cons (dapp_ok D) all_nil))))))))
  have app : ∀ {l : List Row}, (∀ r ∈ l, RW (mixV Vw CV num c N) ρ n r) → ∀ r ∈ ([Row.llen 0 (.sint 2), .iop 4 (.sint 0) (.sint 2) (.sint 1), .iop 3 (.sint 0) (.int 3) (.sint 3), .iop 3 (.sint 0) (.int 24) (.sint 4), .lget 0 (.sint 1) (.ref 5), .lget 1 (.sint 1) (.ref 22)] ++ l) ++ _, RW (mixV Vw CV num c N) ρ n r := fun h => all_app (all_app hd h) tl
  have key : ∀ w : Int, Int.fmod (Int.fdiv num 3) 8 = w → RW (mixV Vw CV num c N) ρ n (.iop 4 (.sint 3) (.int 8) (.int w)) := fun w hw => iopOK (Int.fdiv num 3) 8 w rfl rfl rfl (congrArg some hw) (by decide) (by decide) (by decide)
  have key2 : ∀ w : Int, Int.fmod (Int.fdiv num 24) 2 = w → RW (mixV Vw CV num c N) ρ n (.iop 4 (.sint 4) (.int 2) (.int w)) := fun w hw => iopOK (Int.fdiv num 24) 2 w rfl rfl rfl (congrArg some hw) (by decide) (by decide) (by decide)
  have key4 : ∀ w : Int, Int.fmod (Int.fdiv num 24) 4 = w → RW (mixV Vw CV num c N) ρ n (.iop 4 (.sint 4) (.int 4) (.int w)) := fun w hw => iopOK (Int.fdiv num 24) 4 w rfl rfl rfl (congrArg some hw) (by decide) (by decide) (by decide)
  have key1 : RW (mixV Vw CV num c N) ρ n (.iop 2 (.sint 4) (.int 1) (.sint 4)) := mulOK _ 1 _ rfl rfl rfl (Int.mul_one _) (by decide) (by decide)
  have key9 : ∀ w : Int, Int.fmod (Int.fdiv num 3) 8 = w → icmp 2 w 0 = some false → icmp 2 w 1 = some false → icmp 6 w 4 = some true → icmp 2 w 4 = some false → icmp 2 w 5 = some false → icmp 2 w 6 = some false → icmp 2 w 7 = some false →
      ∀ r ∈ [Row.iop 4 (.sint 3) (.int 8) (.sint 9), .icmp 2 (.sint 9) (.int 0) false, .icmp 2 (.sint 9) (.int 1) false, .icmp 6 (.sint 9) (.int 4) true, .icmp 2 (.sint 9) (.int 4) false, .icmp 2 (.sint 9) (.int 5) false, .icmp 2 (.sint 9) (.int 6) false, .icmp 2 (.sint 9) (.int 7) false], RW (mixV Vw CV num c N) ρ n r := fun w hw q1 q2 q3 q4 q5 q6 q7 =>
    have iv : ival (mixV Vw CV num c N) (.sint 9) = some w := congrArg some hw
    all_cons (iopOK _ 8 _ rfl rfl rfl rfl (by decide) (by decide) (by decide)) (all_cons (cmpOK _ 0 iv rfl q1) (all_cons (cmpOK _ 1 iv rfl q2) (all_cons (cmpOK _ 4 iv rfl q3) (all_cons (cmpOK _ 4 iv rfl q4) (all_cons (cmpOK _ 5 iv rfl q5) (all_cons (cmpOK _ 6 iv rfl q6) (all_cons (cmpOK _ 7 iv rfl q7) all_nil)))))))
  have par : Int.fmod (Int.fdiv num 24) 2 = Int.fmod (Int.fmod (Int.fdiv num 24) 4) 2 := by
    rw [Int.fmod_eq_emod_of_nonneg _ (by decide), Int.fmod_eq_emod_of_nonneg _ (by decide), Int.fmod_eq_emod_of_nonneg _ (by decide)]
    omega
  unfold clsOf
  generalize Int.fmod (Int.fdiv num 3) 8 = w at w8 key key9 ⊢
  rcases rg8 w8 with rfl | rfl | rfl | rfl | rfl | rfl | rfl | rfl
  · exact ⟨Nat.le_of_ble_eq_true rfl, app (all_cons (key _ rfl) all_nil)⟩
  · exact ⟨Nat.le_of_ble_eq_true rfl, app (all_cons (key _ rfl) all_nil)⟩
  · exact ⟨Nat.le_of_ble_eq_true rfl, app (key9 _ rfl rfl rfl rfl rfl rfl rfl rfl)⟩
  · exact ⟨Nat.le_of_ble_eq_true rfl, app (key9 _ rfl rfl rfl rfl rfl rfl rfl rfl)⟩
  · exact ⟨Nat.le_of_ble_eq_true rfl, app (all_cons (key _ rfl) (all_cons (mulOK _ 0 0 rfl rfl rfl (Int.mul_zero _) (by decide) (by decide)) all_nil))⟩
  · exact ⟨Nat.le_of_ble_eq_true rfl, app (all_cons (key _ rfl) all_nil)⟩
  · exact ⟨Nat.le_of_ble_eq_true rfl, app (all_cons (key _ rfl) all_nil)⟩
  · generalize Int.fmod (Int.fdiv num 24) 4 = q at r4 par key4 ⊢
    rcases rg4 r4 with rfl | rfl | rfl | rfl
    · exact ⟨Nat.le_of_ble_eq_true rfl, app (all_cons (key _ rfl) (all_cons (key2 _ par) (all_cons key1 (all_cons (key4 _ rfl) all_nil))))⟩
    · exact ⟨Nat.le_of_ble_eq_true rfl, app (all_cons (key _ rfl) (all_cons (key2 _ par) all_nil))⟩
    · exact ⟨Nat.le_of_ble_eq_true rfl, app (all_cons (key _ rfl) (all_cons (key2 _ par) (all_cons key1 (all_cons (key4 _ rfl) all_nil))))⟩
    · exact ⟨Nat.le_of_ble_eq_true rfl, app (all_cons (key _ rfl) (all_cons (key2 _ par) all_nil))⟩
theorem rowsS_ok (hc : c < 1000) (l0 : (Vw.lst 0)[c]? = some (.ref (ρ 5))) (l1 : (Vw.lst 1)[c]? = some (.ref (ρ 22))) (hn : 22 < n) : ∀ r ∈ rowsS, RW (mixV Vw CV 0 c N) ρ n r := by
  have lg := lget_ok (n := n) (V := mixV Vw CV 0 c N) (ρ := ρ) (ls := Vw.lst) (c := c) rfl rfl hc l0 l1 hn
  have g : ∀ k : Nat, k < 4 → (mixV Vw CV 0 c N).str (10 + k) = CV.str (10 + k) ∧ (mixV Vw CV 0 c N).str (20 + k) = (dGet (CV.dic 0) (k : Int)).getD (CV.str (10 + k)) := fun k hk => by
    rcases (by omega : k = 0 ∨ k = 1 ∨ k = 2 ∨ k = 3) with rfl | rfl | rfl | rfl <;> exact ⟨rfl, rfl⟩
  refine all_app (all_cons lg.1 (all_cons lg.2 all_nil)) fun r hr => ?_
  obtain ⟨k, hk, rfl⟩ := List.mem_map.mp hr
  obtain ⟨e1, e2⟩ := g k (List.mem_range.mp hk)
  refine ⟨⟨k, rfl, ?_⟩, trivial, trivial⟩
  show (match dGet (CV.dic 0) (k : Int) with | some t => some ((mixV Vw CV 0 c N).str (20 + k)) = some t | none => ∃ t, some ((mixV Vw CV 0 c N).str (10 + k)) = some t ∧ some ((mixV Vw CV 0 c N).str (20 + k)) = some t)
  rw [e1, e2]
  cases dGet (CV.dic 0) (k : Int) with
  | some t => rfl
  | none => exact ⟨_, rfl, rfl⟩
end
section
inductive Ow | non | fr | tab | wo (i : Nat) | ob (c i : Nat) | ex (j : Nat)
structure Cli where
  m : Mu
  L : LL
  V : Val
  ρ : Nat → Addr
noncomputable abbrev Cli.ob (C : Cli) : List SObj := objsOf C.m C.L
noncomputable abbrev Cli.n (C : Cli) : Nat := C.ob.length
inductive Bk (G : Gl) (T : Nat) (A : Nat → Addr) (ls : Nat → List Value) (own : Addr → Ow) (h : Heap) (c : Nat) (C : Cli) : Prop | mk (rc : (C.m, C.L) ∈ reach) (vok : VOK C.V) (ci : C.V.int 1 = (c : Int)) (dk : DOK T (C.V.dic 0)) (lse : C.V.lst = ls) (wa : ∀ i, i < 5 → C.ρ i = A i)
  (ob : ∀ i so, C.ob[i]? = some so → 5 ≤ i → An (OJ G C.V C.ρ h (C.ρ i) so) (own (C.ρ i) = .ob c i)) (l0 : (ls 0)[c]? = some (.ref (C.ρ 5))) (l1 : (ls 1)[c]? = some (.ref (C.ρ 22)))
inductive Inv (G : Gl) (N T : Nat) (A : Nat → Addr) (Vw : Val) (cs : List Cli) (own : Addr → Ow) (h : Heap) : Prop | mk (len : cs.length = N) (vok : VOK Vw) (cnt : An (0 ≤ Vw.int 5) (Vw.int 5 ≤ (T : Int))) (ll : (Vw.lst 0).length = N)
  (wd : ∀ i so, worldObjs[i]? = some so → An (OJ G Vw A h (A i) so) (own (A i) = .wo i)) (bk : ∀ c C, cs[c]? = some C → Bk G T A Vw.lst own h c C)
noncomputable def DictAt (h : Heap) (a : Addr) : Prop := ∃ o es n, h.get? a = some o ∧ o.data = .dict es n
inductive Raw (X : Cx) (N T : Nat) (A : Nat → Addr) (Vw : Val) (cs : List Cli) (own : Addr → Ow) (H : Heap) (s : Shared) (m : PySem.Str → Option Value) : Prop | mk (fs : Fs X) (inv : Inv X.G N T A Vw cs own H) (sub : ∀ b o, H.get? b = some o → s.heap.get? b = some o)
  (ns : s.heap.Ns X.L m) (oL : own X.L = .fr) (lm : X.lm = none) (hd : X.hd = none) (tb : ∀ t ∈ X.tabs, An (TabOK s.heap t) (own t.P = .tab)) (gens : s.gens = #[]) (os : s.os = X.G.os) (base : ∀ b o, X.base.get? b = some o → An (H.get? b = some o) (own b = .non))
  (ff : ∃ h : Heap, h.FunFrames X.base X.outer) (od : ∀ a ∈ X.outer.filterMap (·.frame), An (own a = .non) (DictAt H a)) (ex : ∀ b, own b ≠ .non → ∃ o, s.heap.get? b = some o)
  (nr : ∀ b o, own b ≠ .non → s.heap.get? b = some o → NoRec o) (oh : ∀ b d i, own b = .ob d i → ∃ o, H.get? b = some o)
variable {N T n c : Nat} {A : Nat → Addr} {Vw : Val} {h h' H : Heap} {s s' : Shared} {m m' : PySem.Str → Option Value} {p : Obj}
theorem ff_of {base : Heap} {l : List Env} (x : h.FunFrames base l) (od : ∀ a ∈ l.filterMap (·.frame), DictAt h' a) : h'.FunFrames base l := by
  induction l with
  | nil => trivial
  | cons e r ih =>
    obtain ⟨hk, ⟨L, o, hf, hn, ho, hd⟩, hr⟩ := x
    rw [List.filterMap_cons, hf] at od
    obtain ⟨o', es, n, e', d'⟩ := od L (.head _)
    exact ⟨hk, ⟨L, o', hf, hn, e', fun vs q => nomatch d'.symm.trans q⟩, ih hr fun a ha => od a (.tail _ ha)⟩
theorem lt_ok : reach.all (fun x => Nat.ble 23 (objsOf x.1 x.2).length && Nat.ble (objsOf x.1 x.2).length 70) = true := by decide +kernel
theorem Cli.nle {C : Cli} (rc : (C.m, C.L) ∈ reach) : An (22 < C.n) (C.n ≤ 70) := have b := an_bool (List.all_eq_true.mp lt_ok _ rc); ⟨Nat.le_of_ble_eq_true b.1, Nat.le_of_ble_eq_true b.2⟩
theorem objs_world {m : Mu} {L : LL} {i : Nat} (hi : i < 5) : (objsOf m L)[i]? = worldObjs[i]? := by
  unfold objsOf
  rw [List.append_assoc, List.append_assoc]
  exact List.getElem?_append_left hi
section
variable {X : Cx} {cs : List Cli} {own : Addr → Ow} {C : Cli} {obs eo : List SObj} {ea : List Addr} {rs : List Row}
theorem idl_of {i j : Nat} (e : lk (idl n) (0 + i) = some j) : i = j := (Nat.zero_add i).symm.trans (lk_idl e).1
theorem Inv.objs {num : Int} (I : Inv G N T A Vw cs own H) (hc : cs[c]? = some C) {i : Nat} {so : SObj} (hi : C.ob[i]? = some so) : An (OJ G (mixV Vw C.V num c N) C.ρ H (C.ρ i) so) (own (C.ρ i) = if i < 5 then .wo i else .ob c i) := by
  have B := I.6 c C hc
  by_cases h5 : i < 5
  · have hw := (objs_world h5).symm.trans hi
    have w := I.5 i so hw
    have k := an_bool world_ok
    obtain ⟨j, b, h1, h2, h3⟩ := emAll_at k.1 hw
    cases idl_of h1
    cases hw.symm.trans h2
    rw [B.6 i h5, if_pos h5]
    exact ⟨w.1.to (intoW B.6) h3 (fun q => by have z := List.all_eq_true.mp k.2 so (List.mem_of_getElem? hw); rw [q] at z; cases z), w.2⟩
  · have h5 := Nat.le_of_not_lt h5
    have w := B.7 i so hi h5
    have k := an_bool (List.all_eq_true.mp priv_ok _ B.1)
    have hd : (C.ob.drop 5)[i - 5]? = some so := by rw [List.getElem?_drop, Nat.add_sub_cancel' h5]; exact hi
    obtain ⟨j, b, h1, h2, h3⟩ := emAll_at k.1 hd
    rw [Nat.add_sub_cancel' h5] at h1
    cases (lk_idl h1).1
    cases hi.symm.trans h2
    rw [if_neg (Nat.not_lt.mpr h5)]
    exact ⟨w.1.to (intoP B.3 B.5) h3 (fun q => by have z := List.all_eq_true.mp k.2 so (List.mem_of_getElem? hd); rw [q] at z; cases z), w.2⟩
noncomputable def keptIn (H : Heap) (b : Addr) : Cl := cond (H.get? b).isSome .kept .non
noncomputable def clF (own : Addr → Ow) (H : Heap) (c n : Nat) (b : Addr) : Cl := match own b with
  | .non => keptIn H b
  | .fr => .fr
  | .tab => .tab
  | .wo i => .ob i
  | .ob d i => if d = c then .ob i else keptIn H b
  | .ex j => .ob (n + j)
noncomputable def isKp (c : Cl) : Bool := match c with | .kept => true | _ => false
noncomputable def kF (own : Addr → Ow) (H : Heap) (c n : Nat) : Heap := hideAll H ((List.range H.objs.size).filter fun a => !isKp (clF own H c n a))
theorem kept_in {b : Addr} {o : Obj} (e : H.get? b = some o) : keptIn H b = .kept := by unfold keptIn; rw [e]; rfl
theorem clF_non {b : Addr} {o : Obj} (e : H.get? b = some o) (h : own b = .non) : clF own H c n b = .kept := by unfold clF; rw [h]; exact kept_in e
theorem clF_ne {b : Addr} {o : Obj} {d i : Nat} (e : H.get? b = some o) (h : own b = .ob d i) (q : d ≠ c) : clF own H c n b = .kept := by unfold clF; rw [h]; exact (if_neg q).trans (kept_in e)
theorem clF_at {b : Addr} {i : Nat} (h : own b = if i < 5 then .wo i else .ob c i) : clF own H c n b = .ob i := by
  unfold clF
  by_cases q : i < 5
  · rw [h, if_pos q]
  · rw [h, if_neg q]; exact if_pos rfl
theorem kF_get {b : Addr} {o : Obj} (e : H.get? b = some o) (k : clF own H c n b = .kept) : (kF own H c n).get? b = some o := hideAll_get _ e fun q => by have z := (List.mem_filter.mp q).2; rw [k] at z; cases z
theorem kF_of {b : Addr} {o : Obj} (e : (kF own H c n).get? b = some o) : An (H.get? b = some o) (clF own H c n b = .kept) := by
  have g := of_hideAll _ e
  refine ⟨g, ?_⟩
  cases q : clF own H c n b with
  | kept => rfl
  | _ => cases e.symm.trans (hideAll_none _ (List.mem_filter.mpr ⟨List.mem_range.mpr (Heap.lt_size g), by rw [q]; rfl⟩))
noncomputable def rhoF (C : Cli) (ea : List Addr) (i : Nat) : Addr := if i < C.n then C.ρ i else ea.getD (i - C.n) 0
theorem rhoF_lo {i : Nat} (h : i < C.n) : rhoF C ea i = C.ρ i := if_pos h
theorem rhoF_hi {j : Nat} : rhoF C ea (C.n + j) = ea.getD j 0 := (if_neg (Nat.not_lt.mpr (Nat.le_add_right _ _))).trans (congrArg (ea.getD · 0) (Nat.add_sub_cancel_left ..))
@[reducible] noncomputable def Cx.fo (X : Cx) (p : Obj) (V : Val) : Cx := { X with G := X.G.fo p V }
@[reducible] noncomputable def Wd.foc (own : Addr → Ow) (H : Heap) (c : Nat) (C : Cli) (ea : List Addr) (s : Shared) (m : PySem.Str → Option Value) : Wd := ⟨kF own H c C.n, rhoF C ea, s, clF own H c C.n, m, m⟩
inductive ExD : SObj → Obj → Prop | cell (o : Obj) (x : Option Value) (h : o.data = .cell x) : ExD (.cell none) o | it (a b : Int) : ExD (.riter a b) (riterObj a b)
inductive ExA (own : Addr → Ow) (h : Heap) (j : Nat) (a : Addr) (so : SObj) : Prop | mk (ow : own a = .ex j) (o : Obj) (e : h.get? a = some o) (d : ExD so o)
theorem ExD.nr {so : SObj} {o : Obj} (d : ExD so o) : NoRec o := by
  cases d with
  | cell o x h => exact fun vs q t d' => nomatch h.symm.trans d'
  | it a b => exact fun vs q t d' z => by cases d'; cases z
theorem ExD.lt {so : SObj} {o : Obj} (d : ExD so o) (n : Nat) : so.lt n := by cases d <;> exact trivial
theorem ExD.oi {so : SObj} {o : Obj} {a : Addr} {cl : Addr → Cl} {i : Nat} (d : ExD so o) (e : h.get? a = some o) : OI (G.fo p V) cl ρ h i a so := by
  cases d with
  | cell o x hd => exact ⟨o, e, .mk x hd trivial, trivial⟩
  | it a b => exact ⟨_, e, rfl, trivial⟩
theorem Fs.fo (F : Fs X) (hy : ∀ o, Hyp (X.G.fo o V) X.P) : Fs (X.fo p V) := .mk hy F.2 F.3 F.4 F.5 F.6 F.7 F.8 F.9 F.10 F.11 F.12 F.13 ⟨F.14.1, F.14.2, F.14.3, F.14.4, F.14.5⟩ F.15 F.16 F.17 F.18
theorem focus (R : Raw X N T A Vw cs own H s m) (hy : ∀ o, Hyp (X.G.fo o V) X.P) (sz : H.objs.size ≤ X.L) (hc : cs[c]? = some C) (ol : obs.length = C.n) (hob : ∀ i so, obs[i]? = some so → An (OI (X.G.fo p V) (clF own H c C.n) C.ρ s.heap i (C.ρ i) so) (so.lt C.n))
    (hex : ∀ j so, eo[j]? = some so → ExA own s.heap j (ea.getD j 0) so) (hr : ∀ r ∈ rs, RW V C.ρ C.n r) (hn : ∀ x v, lk fr.loc x = some v → An (v.lt C.n) (∃ y, m (nm x) = some y ∧ Den V C.ρ v y))
    (hce : ∀ x i, lk fr.cel x = some i → An (X.env.cells.lookup (nm x) = some (rhoF C ea i)) (i < (obs ++ eo).length)) : At (X.fo p V) fr ⟨obs ++ eo, rs⟩ (Wd.foc own H c C ea s m) := by
  have I := R.2
  have hL : X.env.locals = X.L := R.1.17 R.6
  have le : C.n ≤ (obs ++ eo).length := ol ▸ (List.length_append (as := obs) (bs := eo)).symm ▸ Nat.le_add_right ..
  have cL : clF own H c C.n X.L = .fr := by unfold clF; rw [R.5]
  have kb : ∀ {b o}, H.get? b = some o → own b = .non → (kF own H c C.n).get? b = some o := fun e q => kF_get e (clF_non e q)
  refine .mk (fun i so e => ?_) (R.1.fo hy) (fun b o e => have q := kF_of e; ⟨R.3 b o q.1, q.2⟩) R.4 (hL.symm ▸ R.4) cL ((congrArg (clF own H c C.n) hL).trans (cL.trans (by unfold Cx.lc; rw [R.6]))) (fun x v e => ?_) hce (fun t ht => have q := R.8 t ht; ⟨q.1, by show clF _ _ _ _ _ = _; unfold clF; rw [q.2]⟩) R.9 R.10 (fun r h => have q := hr r h; ⟨q.1.ext (fun i hi => rhoF_lo hi) q.2, Row.lt_le le q.2⟩)
    (fun e q => nomatch R.7.symm.trans q) (fun m0 q => nomatch R.6.symm.trans q) (Nat.le_trans (Nat.le_of_eq (hideAll_size ..)) sz) (fun b o e => have q := R.11 b o e; kb q.1 q.2) (let ⟨h, x⟩ := R.12; ff_of x fun a ha => ?_) (fun a ha => ?_) fun b hb => ?_
  · by_cases hi : i < C.n
    · rw [List.getElem?_append_left (ol ▸ hi)] at e
      have q := hob i so e
      have r : rhoF C ea i = C.ρ i := rhoF_lo hi
      refine ⟨OI.mv (n := C.n) (Ch := fun _ => False) (fun b o e _ => e) (fun _ _ f _ => f.elim) (fun T t => t) id r (fun j hj => rhoF_lo hj) q.2 q.1, ?_, SObj.lt_le le q.2⟩
      show clF own H c C.n (rhoF C ea i) = .ob i
      rw [r]
      exact clF_at (I.objs (num := 0) hc (List.getElem?_eq_getElem (show i < C.ob.length from hi))).2
    · obtain ⟨j, rfl⟩ := Nat.exists_eq_add_of_le (Nat.le_of_not_lt hi)
      rw [List.getElem?_append_right (ol ▸ Nat.le_add_right _ _), ol, Nat.add_sub_cancel_left] at e
      cases hex j so e with
      | mk ow o eo d =>
        have r : rhoF C ea (C.n + j) = ea.getD j 0 := rhoF_hi
        refine ⟨by show OI _ _ _ _ _ (rhoF C ea (C.n + j)) _; rw [r]; exact d.oi eo, ?_, d.lt _⟩
        show clF own H c C.n (rhoF C ea (C.n + j)) = .ob (C.n + j)
        rw [r]
        unfold clF
        rw [ow]
  · have q := hn x v e
    obtain ⟨y, e1, d⟩ := q.2
    exact ⟨SV.lt_le le q.1, y, e1, d.ext (fun i hi => rhoF_lo hi) q.1⟩
  · have q := R.13 a ha
    obtain ⟨o, es, n, e, d⟩ := q.2
    exact ⟨o, es, n, kb e q.1, d⟩
  · have q := R.13 a ha
    obtain ⟨o, es, n, e, d⟩ := q.2
    exact ⟨o, es, n, kb e q.1, d⟩
  · by_cases q : own b = .non
    · have hb : clF own H c C.n b ≠ .non := hb
      unfold clF at hb
      rw [q] at hb
      cases e : H.get? b with
      | none => exact absurd (by show keptIn H b = .non; unfold keptIn; rw [e]; rfl) hb
      | some o => exact ⟨o, R.3 b o e⟩
    · exact R.14 b q
end
end
section
variable {N T n c : Nat} {A : Nat → Addr} {Vw : Val} {h h' H : Heap} {s s' : Shared} {m : PySem.Str → Option Value} {p : Obj} {cs : List Cli} {own : Addr → Ow} {C : Cli} {ea : List Addr} {e : EM} {num : Int} {g : Nat → Ow}
inductive Kpt (fs : List Addr) (own own' : Addr → Ow) (H H' : Heap) : Prop | mk (ow : ∀ b o, H.get? b = some o → own b = .non → own' b = .non) (sl : ∀ b o, H.get? b = some o → own b = .non → ∃ sl, H'.get? b = some { o with slots := sl }) (same : ∀ b o, H.get? b = some o → own b = .non → b ∉ fs → H'.get? b = some o)
theorem kept_K (S' : At (X.fo p V) fr' σ' w') (x : Ex X.outer n (Wd.foc own H c C ea s m) w') {b : Addr} {o : Obj} (e : H.get? b = some o) (k : clF own H c C.n b = .kept) : An (∃ sl, w'.s.heap.get? b = some { o with slots := sl }) (An (w'.cl b = .kept) (b ∉ X.outer.filterMap (·.frame) → w'.s.heap.get? b = some o)) := by
  have g := kF_get e k
  obtain ⟨sl, y⟩ := x.2 b o g
  have q := S'.3 _ _ y
  exact ⟨⟨sl, q.1⟩, q.2, fun n => (S'.3 _ _ (x.4 b o g n)).1⟩
theorem triples_nr {t : Tab} {h : Heap} (x : TabOK h t) {o : Obj} (e : h.get? t.P = some o) : NoRec o := by
  cases x with
  | mk ps e' hT q =>
    cases e'.symm.trans e
    exact fun vs q t d => by cases d; exact fun z => triples_no_str hT q t (by rw [Array.getElem?_toList]; exact z)
theorem ns_nr {h : Heap} {a : Addr} {m : PySem.Str → Option Value} (x : h.Ns a m) {o : Obj} (e : h.get? a = some o) : NoRec o := by
  obtain ⟨_, _, _, e', hd, _⟩ := x
  cases e'.symm.trans e
  exact .dict hd
theorem dict_nr {h : Heap} {a : Addr} (x : DictAt h a) {o : Obj} (e : h.get? a = some o) : NoRec o := by
  obtain ⟨_, _, _, e', hd⟩ := x
  cases e'.symm.trans e
  exact .dict hd
theorem any_tab {X : Cx} {b : Addr} (h : (X.tabs.any fun t => Nat.beq t.P b) = true) : ∃ t ∈ X.tabs, t.P = b := let ⟨t, ht, q⟩ := List.any_eq_true.mp h; ⟨t, ht, Nat.eq_of_beq_eq_true q⟩
noncomputable def tagO (c i : Nat) : Ow := if i < 5 then .wo i else .ob c i
noncomputable def glO (e : EM) (c n : Nat) : List (Nat × Ow) := (List.range n).filterMap fun i => (lk e.ids i).map fun j => (j, tagO c i)
noncomputable def keepO (c : Nat) (o : Ow) : Ow := match o with | .ob d i => if d = c then .non else .ob d i | _ => .non
noncomputable def ownT (X : Cx) (own : Addr → Ow) (c : Nat) (g : Nat → Ow) (w' : Wd) (b : Addr) : Ow := if b = X.L then .fr else cond (X.tabs.any fun t => Nat.beq t.P b) .tab (match w'.cl b with
  | .kept => keepO c (own b)
  | .ob j => if b = w'.ρ j then g j else .non
  | _ => .non)
theorem okEM_id (h : okEM e = true) {i : Nat} (hi : i ∈ List.range 5 ++ [5, 22]) : lk e.ids i = some i := any_of (List.all_eq_true.mp (an_bool h).1 i hi) fun j hj q => (Nat.eq_of_beq_eq_true q).symm ▸ hj
theorem okEM_5 (h : okEM e = true) {i : Nat} (hi : i < 5) : lk e.ids i = some i := okEM_id h (List.mem_append_left _ (List.mem_range.mpr hi))
noncomputable def SV.ltB (n : Nat) (v : SV) : Bool := v.sel true (ref' := fun i => Nat.blt i n)
noncomputable def SObj.ltB (n : Nat) (o : SObj) : Bool := o.sel false (list' := fun xs => xs.all (SV.ltB n)) (tup' := fun xs => xs.all (SV.ltB n)) (dict' := fun es => es.all fun e => e.2.ltB n) (inst' := fun _ d => Nat.blt d n) (cell' := fun v => v.all (SV.ltB n)) (fn' := fun _ cs => cs.all fun e => Nat.blt e.2 n) (adict' := fun _ => true) (alist' := fun _ => true) (pin' := true)
theorem SV.lt_of {v : SV} (h : v.ltB n = true) : v.lt n := by cases v with | ref i => exact Nat.le_of_ble_eq_true h | _ => trivial
theorem SObj.lt_of {so : SObj} (h : so.ltB n = true) : so.lt n := by
  cases so with
  | list xs => exact fun v hv => SV.lt_of (List.all_eq_true.mp h v hv)
  | tup xs => exact fun v hv => SV.lt_of (List.all_eq_true.mp h v hv)
  | dict es => exact fun e he => SV.lt_of (List.all_eq_true.mp h e he)
  | inst C d => exact Nat.le_of_ble_eq_true h
  | cell v => cases v with | none => trivial | some v => exact SV.lt_of (v := v) h
  | fn k cs => exact fun e he => Nat.le_of_ble_eq_true (List.all_eq_true.mp h e he)
  | edict => cases h
  | bm => cases h
  | iter => cases h
  | exc => cases h
  | _ => trivial
theorem objs_lt : (reach.all (fun x => (objsOf x.1 x.2).all (SObj.ltB (objsOf x.1 x.2).length)) && worldObjs.all (SObj.ltB 5)) = true := by decide +kernel
theorem ob_lt {C : Cli} (rc : (C.m, C.L) ∈ reach) {i : Nat} {so : SObj} (h : C.ob[i]? = some so) : so.lt C.n := SObj.lt_of (List.all_eq_true.mp (List.all_eq_true.mp (an_bool objs_lt).1 _ rc) so (List.mem_of_getElem? h))
theorem world_lt {i : Nat} {so : SObj} (h : worldObjs[i]? = some so) : so.lt 5 := SObj.lt_of (List.all_eq_true.mp (an_bool objs_lt).2 so (List.mem_of_getElem? h))
noncomputable def gT (e : EM) (c n j : Nat) : Ow := (lk (glO e c n) j).getD .non
theorem gT_of {j : Nat} (h : gT e c n j ≠ .non) : ∃ i, i < n ∧ lk e.ids i = some j := by
  unfold gT at h
  cases q : lk (glO e c n) j with
  | none => rw [q] at h; exact absurd rfl h
  | some o =>
    obtain ⟨i, hm, q⟩ := List.mem_filterMap.mp (lk_mem q)
    obtain ⟨j', e', q⟩ := Option.map_eq_some_iff.mp q
    cases q
    exact ⟨i, List.mem_range.mp hm, e'⟩
inductive Lded (X : Cx) (own' : Addr → Ow) (c : Nat) (e : EM) (V : Val) (w' : Wd) (i : Nat) (so : SObj) : Prop | mk (oj : OJ X.G (landV e V w'.ρ) (landR e w'.ρ) w'.s.heap (landR e w'.ρ i) so) (ow : own' (landR e w'.ρ i) = tagO c i)
theorem not_pin {m : Mu} {L : LL} (rc : (m, L) ∈ reach) {i : Nat} {so : SObj} (h : (objsOf m L)[i]? = some so) : so ≠ .pin := fun q => by
  subst q
  by_cases h5 : i < 5
  · have k := (an_bool world_ok).2
    have z := List.all_eq_true.mp k _ (List.mem_of_getElem? ((objs_world h5).symm.trans h))
    cases z
  · have h5 := Nat.le_of_not_lt h5
    have k := (an_bool (List.all_eq_true.mp priv_ok _ rc)).2
    have z := List.all_eq_true.mp k SObj.pin (List.mem_of_getElem? (show ((objsOf m L).drop 5)[i - 5]? = some .pin by rw [List.getElem?_drop, Nat.add_sub_cancel' h5]; exact h))
    cases z
theorem ownT_ob {j : Nat} {o : Ow} (S' : At (X.fo p V) fr' σ' w') (hj : j < σ'.objs.length) (h : g j = o) : ownT X own c g w' (w'.ρ j) = o := by
  have cl := (S'.lt hj).2
  unfold ownT
  have n1 : w'.ρ j ≠ X.L := fun q => nomatch cl.symm.trans ((congrArg w'.cl q).trans S'.6)
  have n2 : (X.tabs.any fun t => Nat.beq t.P (w'.ρ j)) = false := by
    cases q : X.tabs.any fun t => Nat.beq t.P (w'.ρ j) with
    | false => rfl
    | true => obtain ⟨t, ht, q⟩ := any_tab q; exact nomatch cl.symm.trans ((congrArg w'.cl q).symm.trans (S'.10 t ht).2)
  rw [if_neg n1, n2, cl]
  show (if w'.ρ j = w'.ρ j then g j else .non) = o
  rw [if_pos rfl, h]
theorem landed_at {m' : Mu} {L' : LL} (S' : At (X.fo p V) fr' σ' w') (ck : ckE' e (objsOf m' L') σ'.objs = true) (rc : (m', L') ∈ reach) {i : Nat} {so : SObj} (hi : (objsOf m' L')[i]? = some so) : Lded X (ownT X own c (gT e c (objsOf m' L').length) w') c e V w' i so := by
  have c1 := an_bool ck
  have c2 := an_bool c1.2
  have c3 := an_bool c2.2
  have c4 := an_bool c3.2
  obtain ⟨j, b, h1, h2, h3⟩ := emAll_at c1.1 hi
  rw [Nat.zero_add] at h1
  have r : landR e w'.ρ i = w'.ρ j := congrArg (fun o => o.elim 0 w'.ρ) h1
  have oi := (S'.1 j b h2).1
  refine ⟨by rw [r]; exact OI.land (into_land c3.1 c4.1) h3 (not_pin rc hi) oi, r.symm ▸ ownT_ob S' (SS.at_lt h2) (congrArg (fun o : Option Ow => o.getD .non) (lk_of (by
    have e1 : (glO e c (objsOf m' L').length).map (·.1) = (List.range (objsOf m' L').length).filterMap (lk e.ids) := by
      unfold glO
      rw [List.map_filterMap]
      exact congrArg (fun f => List.filterMap f _) (funext fun i => by cases lk e.ids i <;> rfl)
    show ((glO e c (objsOf m' L').length).map (·.1)).Nodup
    rw [e1]; exact of_decide_eq_true c2.1) (List.mem_filterMap.mpr ⟨i, List.mem_range.mpr (List.getElem?_eq_some_iff.mp hi).1, by rw [h1]; rfl⟩)))⟩
theorem ownT_kept {b : Addr} (S' : At (X.fo p V) fr' σ' w') (k : w'.cl b = .kept) : ownT X own c g w' b = keepO c (own b) := by
  unfold ownT
  have n1 : b ≠ X.L := fun q => nomatch k.symm.trans ((congrArg w'.cl q).trans S'.6)
  have n2 : (X.tabs.any fun t => Nat.beq t.P b) = false := by
    cases q : X.tabs.any fun t => Nat.beq t.P b with
    | false => rfl
    | true => obtain ⟨t, ht, q⟩ := any_tab q; exact nomatch k.symm.trans ((congrArg w'.cl q).symm.trans (S'.10 t ht).2)
  rw [if_neg n1, n2, k]; rfl
theorem ownT_tab {t : Tab} (S' : At (X.fo p V) fr' σ' w') (ht : t ∈ X.tabs) : ownT X own c g w' t.P = .tab := by
  unfold ownT
  have n1 : t.P ≠ X.L := fun q => nomatch (S'.10 t ht).2.symm.trans ((congrArg w'.cl q).trans S'.6)
  rw [if_neg n1, show (X.tabs.any fun z => Nat.beq z.P t.P) = true from List.any_eq_true.mpr ⟨t, ht, Nat.beq_refl _⟩]; rfl
theorem ownT_of {b : Addr} {C' : Prop} (S' : At (X.fo p V) fr' σ' w') (h : ownT X own c g w' b ≠ .non) (k1 : b = X.L → C') (k2 : ∀ t ∈ X.tabs, b = t.P → C') (k3 : ∀ d i, own b = .ob d i → d ≠ c → C') (k4 : ∀ j, g j ≠ .non → ownT X own c g w' b = g j → b = w'.ρ j → C') : C' := by
  unfold ownT at h k4
  by_cases q : b = X.L
  · exact k1 q
  rw [if_neg q] at h
  cases q2 : X.tabs.any fun t => Nat.beq t.P b with
  | true => obtain ⟨t, ht, q⟩ := any_tab q2; exact k2 t ht q.symm
  | false =>
    rw [q2] at h
    cases cl : w'.cl b with
    | kept =>
      rw [cl] at h
      have h : keepO c (own b) ≠ .non := h
      cases q3 : own b with
      | ob d i => exact k3 d i q3 fun q4 => h (by rw [q3]; exact if_pos q4)
      | _ => exact absurd (by rw [q3]; rfl) h
    | ob j =>
      rw [cl] at h
      have h : (if b = w'.ρ j then g j else .non) ≠ .non := h
      by_cases q5 : b = w'.ρ j
      · rw [if_pos q5] at h
        exact k4 j h (by rw [if_neg q, q2, cl]; exact if_pos q5) q5
      · rw [if_neg q5] at h; exact absurd rfl h
    | _ => rw [cl] at h; exact absurd rfl h
end
section
variable {N T n c : Nat} {A : Nat → Addr} {Vw : Val} {h h' H : Heap} {s s' : Shared} {m : PySem.Str → Option Value} {p : Obj} {cs : List Cli} {own own' : Addr → Ow} {C : Cli} {ea : List Addr} {e : EM} {num : Int} {m' : Mu} {L' : LL}
theorem set_at' {α : Type} {l : List α} {c d : Nat} {x y : α} (h : (l.set c x)[d]? = some y) {C' : Prop} (k1 : d = c → x = y → C') (k2 : d ≠ c → l[d]? = some y → C') : C' := by
  by_cases q : c = d
  · subst q
    rw [List.getElem?_set_self (by have := (List.getElem?_eq_some_iff.mp h).1; rwa [List.length_set] at this)] at h
    exact k1 rfl (Option.some.inj h)
  · rw [List.getElem?_set_ne q] at h
    exact k2 (Ne.symm q) h
theorem land_of (h : land m' L' σ'.objs = some e) : An (ckE' e (objsOf m' L') σ'.objs = true) (An (okEM e = true) ((m', L') ∈ reach)) :=
  Ok.at (φ := fun e => An (ckE' e (objsOf m' L') σ'.objs = true) (An (okEM e = true) ((m', L') ∈ reach))) (x := land m' L' σ'.objs) (.bind fun e _ => .wh fun h => .ret (have b := an_bool h; have b2 := an_bool b.2; ⟨b.1, b2.1, inReach_of b2.2⟩)) h
theorem land_dk (D : DOK T (C.V.dic 0)) (h : okEM e = true) (h0 : 0 ≤ Vw.int 5) (h1 : Vw.int 5 < 39) : DOK (T + 1) ((landV e (mixV Vw C.V num c N) w'.ρ).dic 0) := by
  have tx := text_ok (x := Vw.int 5 + 1) (by omega) (by omega)
  have r4 := fmod_rg (Int.fdiv num 24) (k := 4) (by decide)
  show DOK (T + 1) (e.d.elim [(0, "")] (mixV Vw C.V num c N).dic)
  have b := (an_bool (an_bool (an_bool h).2).2).2
  cases q : e.d with
  | none => exact DOK.one (by decide) (by decide) (show PyData.strOk (Str.ofString "") = true by decide +kernel)
  | some k =>
    rw [q] at b
    match k, Nat.le_of_ble_eq_true b with
    | 0, _ => exact D.mono (Nat.le_succ T)
    | 1, _ => exact DOK.one r4.1 r4.2 tx.2.1
    | 2, _ => exact D.put r4.1 r4.2 tx.2.1
theorem land_cnt (h : okEM e = true) (cnt : An (0 ≤ Vw.int 5) (Vw.int 5 ≤ (T : Int))) {V : Val} (hv : V = mixV Vw C.V num c N) : An ((landV e V w'.ρ).int 1 = (c : Int)) (An (0 ≤ (landV e V w'.ρ).int 5) ((landV e V w'.ρ).int 5 ≤ ((T + 1 : Nat) : Int))) := by
  subst hv
  have b := an_bool (an_bool h).2
  have c1 := cnt.1
  have c2 := cnt.2
  refine ⟨any_of b.1 fun v hv q => ?_, any_of (an_bool b.2).1 fun v hv q => ?_⟩
  · cases SV.eqb_of q
    show ((lk e.is 1).bind (ival (mixV Vw C.V num c N))).getD 0 = (c : Int)
    rw [hv]; rfl
  · show An (0 ≤ ((lk e.is 5).bind (ival (mixV Vw C.V num c N))).getD 0) (((lk e.is 5).bind (ival (mixV Vw C.V num c N))).getD 0 ≤ ((T + 1 : Nat) : Int))
    rw [hv]
    rcases Bool.or_eq_true_iff.mp q with q | q
    · cases SV.eqb_of q
      exact ⟨c1, show Vw.int 5 ≤ ((T + 1 : Nat) : Int) by omega⟩
    · cases SV.eqb_of q
      exact ⟨show 0 ≤ Vw.int 5 + 1 by omega, show Vw.int 5 + 1 ≤ ((T + 1 : Nat) : Int) by omega⟩
theorem Bk.other {ls : Nat → List Value} {d : Nat} {D : Cli} {T' : Nat} (B : Bk X.G T A ls own H d D) (le : T ≤ T') (Ch : Addr → Prop) (hk : ∀ b o, H.get? b = some o → ¬ Ch b → h'.get? b = some o) (hd : ∀ b o, Ch b → H.get? b = some o → NoRec o) (ne : ∀ b i, own b = .ob d i → ¬ Ch b) (ow : ∀ b i, own b = .ob d i → own' b = .ob d i) : Bk X.G T' A ls own' h' d D :=
  ⟨B.1, B.2, B.3, B.4.mono le, B.5, B.6, fun i so hi h5 => have q := B.7 i so hi h5; ⟨q.1.mv hk hd (ne _ i q.2), ow _ i q.2⟩, B.8, B.9⟩
theorem behind {T' : Nat} {V' : Val} {C' : Cli} {g : Nat → Ow} (R : Raw X N T A Vw cs own H s m) (hc : cs[c]? = some C) (le : T ≤ T') (S' : At (X.fo p V) fr' σ' w') (x : Ex X.outer n (Wd.foc own H c C ea s m) w') (h1 : ∀ b o, H'.get? b = some o → w'.s.heap.get? b = some o) (h2 : ∀ b o o', H.get? b = some o → w'.s.heap.get? b = some o' → H'.get? b = some o')
    (hV : C'.V = V') (rc : (C'.m, C'.L) ∈ reach) (vk : VOK V') (ct : An (V'.int 1 = (c : Int)) (An (0 ≤ V'.int 5) (V'.int 5 ≤ (T' : Int)))) (dk : DOK T' (V'.dic 0)) (lst : V'.lst = Vw.lst) (L : ∀ i so, C'.ob[i]? = some so → An (OJ X.G V' C'.ρ H' (C'.ρ i) so) (ownT X own c g w' (C'.ρ i) = tagO c i)) (r0 : ∀ i ∈ List.range 5 ++ [5, 22], C'.ρ i = C.ρ i)
    (gg : ∀ j, g j ≠ .non → An (∃ o, w'.s.heap.get? (w'.ρ j) = some o ∧ NoRec o) (∀ d i, g j = .ob d i → ∃ o, H'.get? (w'.ρ j) = some o)) :
    An (Raw X N T' A V' (cs.set c C') (ownT X own c g w') H' w'.s w'.m) (Kpt (X.outer.filterMap (·.frame)) own (ownT X own c g w') H H') := by
  have I := R.2
  have B := I.6 c C hc
  have K : ∀ {b o}, H.get? b = some o → clF own H c C.n b = .kept → _ := fun {b o} e k => kept_K S' x e k
  have r5 : ∀ i, i < 5 → C'.ρ i = A i := fun i hi => (r0 i (List.mem_append_left _ (List.mem_range.mpr hi))).trans (B.6 i hi)
  have non : ∀ b o, H.get? b = some o → own b = .non → ownT X own c g w' b = .non := fun b o e q => (ownT_kept S' (K e (clF_non e q)).2.1).trans (by rw [q]; rfl)
  have kp : ∀ {b d i}, own b = .ob d i → d ≠ c → ∃ o, H.get? b = some o ∧ clF own H c C.n b = .kept := fun q ne => let ⟨o, e⟩ := R.16 _ _ _ q; ⟨o, e, clF_ne e q ne⟩
  have ob : ∀ b d i, own b = .ob d i → d ≠ c → ownT X own c g w' b = .ob d i := fun b d i q ne => by
    obtain ⟨o, e, k⟩ := kp q ne
    exact (ownT_kept S' (K e k).2.1).trans (by rw [q]; exact if_neg ne)
  have exx : ∀ b, ownT X own c g w' b ≠ .non → ∃ o, w'.s.heap.get? b = some o ∧ NoRec o := fun b hb => ownT_of S' hb (fun q => let ⟨o, g⟩ := ns_ex S'.4; ⟨o, q ▸ g, ns_nr S'.4 g⟩) (fun t ht q => by
      have z := (S'.10 t ht).1
      cases id z with | mk ps eq _ _ => exact ⟨_, q ▸ eq, triples_nr z eq⟩) (fun d i q ne => by
      obtain ⟨o, e, k⟩ := kp q ne
      obtain ⟨sl, g⟩ := (K e k).1
      exact ⟨_, g, R.15 b o (fun z => nomatch q.symm.trans z) (R.3 b o e)⟩) fun j q0 _ q2 => q2 ▸ (gg j q0).1
  have hk : ∀ b o, H.get? b = some o → ¬ (clF own H c C.n b ≠ .kept ∨ b ∈ X.outer.filterMap (·.frame)) → H'.get? b = some o := fun b o eb hb => h2 b o o eb ((K eb (Classical.byContradiction fun z => hb (.inl z))).2.2 fun z => hb (.inr z))
  refine ⟨⟨R.1, ⟨List.length_set.trans I.1, vk, ct.2, (congrArg (fun l : Nat → List Value => (l 0).length) lst).trans I.4, fun i so hi => ?_, fun d D hd => set_at' hd (fun q1 q2 => ?_) fun ne hd => ?_⟩, h1, S'.4, if_pos rfl, R.6, R.7, fun t ht => ⟨(S'.10 t ht).1, ownT_tab S' ht⟩, S'.11, S'.12, fun b o q => ?_, R.12, fun a ha => ?_, fun b hb => ?_, fun b o hb eo => ?_, fun b d i hb => ?_⟩,
    ⟨non, fun b o e q => let ⟨sl, g⟩ := (K e (clF_non e q)).1; ⟨sl, h2 b o _ e g⟩, fun b o e q nf => h2 b o o e ((K e (clF_non e q)).2.2 nf)⟩⟩
  · have h5 : i < 5 := (List.getElem?_eq_some_iff.mp hi).1
    have q := L i so ((objs_world h5).trans hi)
    rw [← r5 i h5]
    exact ⟨q.1.ext (fun j hj => (r5 j hj).symm) (world_lt hi), q.2.trans (if_pos h5)⟩
  · cases q1
    cases q2
    cases hV
    exact ⟨rc, vk, ct.1, dk, rfl, r5, fun i so hi h5 => have q := L i so hi; ⟨q.1, q.2.trans (if_neg (Nat.not_lt.mpr h5))⟩, lst ▸ B.8.trans (congrArg (fun a => some (Value.ref a)) (r0 5 (by decide)).symm), lst ▸ B.9.trans (congrArg (fun a => some (Value.ref a)) (r0 22 (by decide)).symm)⟩
  · refine lst ▸ (I.6 d D hd).other le (fun b => clF own H c C.n b ≠ .kept ∨ b ∈ X.outer.filterMap (·.frame)) hk (fun b o hb eb => hb.elim (fun z => R.15 b o (fun q => z (clF_non eb q)) (R.3 b o eb)) fun z => dict_nr (R.13 b z).2 eb) (fun b i q hb => ?_) fun b i q => ob b d i q ne
    obtain ⟨o, e, k⟩ := kp q ne
    exact hb.elim (fun z => z k) fun z => nomatch q.symm.trans (R.13 b z).1
  · have q2 := R.11 b o q
    obtain ⟨hF, xF⟩ := R.12
    exact ⟨h2 b o o q2.1 ((K q2.1 (clF_non q2.1 q2.2)).2.2 fun z => nomatch (funFrames_out xF b z).symm.trans q), non b o q2.1 q2.2⟩
  · have q := R.13 a ha
    obtain ⟨o, es, k, eo, d⟩ := q.2
    obtain ⟨sl, g⟩ := (K eo (clF_non eo q.1)).1
    exact ⟨non a o eo q.1, _, es, k, h2 a o _ eo g, d⟩
  · exact let ⟨o, e, _⟩ := exx b hb; ⟨o, e⟩
  · obtain ⟨o', e', q⟩ := exx b hb
    exact Option.some.inj (e'.symm.trans eo) ▸ q
  · refine ownT_of (C' := ∃ o, H'.get? b = some o) S' (fun q => nomatch hb.symm.trans q) (fun q => ?_) (fun t ht q => ?_) (fun d i q ne => ?_) fun j q0 q1 q2 => q2 ▸ (gg j q0).2 d i (q1.symm.trans hb)
    · rw [q] at hb; exact nomatch hb.symm.trans (if_pos rfl)
    · rw [q] at hb; exact nomatch hb.symm.trans (ownT_tab S' ht)
    · obtain ⟨o, e, k⟩ := kp q ne
      obtain ⟨sl, g⟩ := (K e k).1
      exact ⟨_, h2 b o _ e g⟩
theorem unfocus {V : Val} (R : Raw X N T A Vw cs own H s m) (hc : cs[c]? = some C) (hv : V = mixV Vw C.V num c N) (vok : VOK V) (cnt : Vw.int 5 < 39) (S' : At (X.fo p V) fr' σ' w') (hn : C.n ≤ n) (x : Ex X.outer n (Wd.foc own H c C [] s m) w') (hl : land m' L' σ'.objs = some e) :
    ∃ own', An (Raw X N (T + 1) A (landV e V w'.ρ) (cs.set c ⟨m', L', landV e V w'.ρ, landR e w'.ρ⟩) own' w'.s.heap w'.s w'.m) (Kpt (X.outer.filterMap (·.frame)) own own' H w'.s.heap) := by
  have I := R.2
  have B := I.6 c C hc
  have nl := Cli.nle B.1
  have ld := land_of hl
  have ck := an_bool (an_bool ld.1).2
  have c3 := an_bool ck.2
  have c4 := an_bool c3.2
  have lsE : ∀ i, lk e.ls i = none := fun i => by rw [emp_of c4.2]; rfl
  have L : ∀ i so, (objsOf m' L')[i]? = some so → Lded X (ownT X own c (gT e c (objsOf m' L').length) w') c e V w' i so := fun i so hi => landed_at S' ld.1 ld.2.2 hi
  refine ⟨_, behind R hc (Nat.le_succ T) S' x (fun b o e => e) (fun b o o' _ e => e) rfl ld.2.2 (land_vok c3.1 (fun i js q => nomatch (lsE i).symm.trans q) vok) (land_cnt ld.2.1 I.3 hv) (hv ▸ land_dk B.4 ld.2.1 I.3.1 cnt) (funext fun i => ?_) (fun i so hi => have q := L i so hi; ⟨q.1, q.2⟩) (fun i hi => ?_) fun j hj => ?_⟩
  · show (lk e.ls i).elim (V.lst i) _ = _
    rw [lsE i, hv]; rfl
  · have hlt : i < C.n := by
      rcases List.mem_append.mp hi with q | q
      · exact Nat.lt_trans (List.mem_range.mp q) (Nat.lt_trans (by decide) nl.1)
      · rcases List.mem_cons.mp q with q | q
        · exact q ▸ Nat.lt_trans (by decide) nl.1
        · exact (List.mem_singleton.mp q) ▸ nl.1
    exact (congrArg (fun o => o.elim 0 w'.ρ) (okEM_id ld.2.1 hi)).trans ((x.1 i (Nat.lt_of_lt_of_le hlt hn)).trans (rhoF_lo hlt))
  · obtain ⟨i, hi, q1⟩ := gT_of hj
    have z := (L i _ (List.getElem?_eq_getElem hi)).1
    rw [show landR e w'.ρ i = w'.ρ j from congrArg (fun o => o.elim 0 w'.ρ) q1] at z
    obtain ⟨o, g⟩ := z.ex
    exact ⟨⟨o, g, z.noRec g⟩, fun _ _ _ => ⟨o, g⟩⟩
end
section
variable {N T T' n c : Nat} {A A' : Nat → Addr} {Vw Vw' : Val} {h h' h₁ H H' : Heap} {s s' : Shared} {m m' : PySem.Str → Option Value} {p : Obj} {cs cs' : List Cli} {own own' : Addr → Ow} {C : Cli} {env' : Env} {tk L' : Nat}
noncomputable def ownW (own : Addr → Ow) (L b : Addr) : Ow := if b = L then .fr else match own b with | .fr => .non | .ex _ => .non | o => o
theorem ownW_non {L b : Addr} (n : b ≠ L) (h : own b = .non) : ownW own L b = .non := by unfold ownW; rw [if_neg n, h]
theorem ownW_fr {L b : Addr} (n : b ≠ L) (h : own b = .fr) : ownW own L b = .non := by unfold ownW; rw [if_neg n, h]
theorem ownW_tab {L b : Addr} (n : b ≠ L) (h : own b = .tab) : ownW own L b = .tab := by unfold ownW; rw [if_neg n, h]
theorem ownW_wo {L b : Addr} {i : Nat} (n : b ≠ L) (h : own b = .wo i) : ownW own L b = .wo i := by unfold ownW; rw [if_neg n, h]
theorem ownW_ob {L b : Addr} {d i : Nat} (n : b ≠ L) (h : own b = .ob d i) : ownW own L b = .ob d i := by unfold ownW; rw [if_neg n, h]
theorem ownW_of {L b : Addr} {C' : Prop} (h : ownW own L b ≠ .non) (k1 : b = L → C') (k2 : own b ≠ .non → C') : C' := by
  by_cases q : b = L
  · exact k1 q
  · exact k2 fun z => h (ownW_non q z)
theorem ob_ownW {L b : Addr} {d i : Nat} (h : ownW own L b = .ob d i) : own b = .ob d i := by
  unfold ownW at h
  by_cases q : b = L
  · rw [if_pos q] at h; cases h
  · rw [if_neg q] at h
    cases z : own b with
    | ob => rw [z] at h; exact h
    | _ => rw [z] at h; cases h
theorem Inv.mv (I : Inv X.G N T A Vw cs own H) (Ch : Addr → Prop) (hk : ∀ b o, H.get? b = some o → ¬ Ch b → H'.get? b = some o) (hd : ∀ b o, Ch b → H.get? b = some o → NoRec o) (hw : ∀ b i, own b = .wo i → (∃ o, H.get? b = some o) → An (own' b = .wo i) (¬ Ch b)) (ho : ∀ b d i, own b = .ob d i → An (own' b = .ob d i) (¬ Ch b)) : Inv X.G N T A Vw cs own' H' :=
  ⟨I.1, I.2, I.3, I.4, fun i so hi => have q := I.5 i so hi; have w := hw _ i q.2 q.1.ex; ⟨q.1.mv hk hd w.2, w.1⟩, fun d D hd' => (I.6 d D hd').other (Nat.le_refl _) Ch hk hd (fun b i q => (ho b d i q).2) fun b i q => (ho b d i q).1⟩
theorem Inv.mono (I : Inv X.G N T A Vw cs own H) (hk : ∀ b o, H.get? b = some o → H'.get? b = some o) (hw : ∀ b i, own b = .wo i → (∃ o, H.get? b = some o) → own' b = .wo i) (ho : ∀ b d i, own b = .ob d i → own' b = .ob d i) : Inv X.G N T A Vw cs own' H' :=
  I.mv (fun _ => False) (fun b o e _ => hk b o e) (fun _ _ f => f.elim) (fun b i q z => ⟨hw b i q z, id⟩) fun b d i q => ⟨ho b d i q, id⟩
theorem Fs.inR (F : Fs X) (hn : 1 ≤ X.n) (hk : env'.scope.kind = .function) (hg : env'.globals = mainGlobals) (hb : env'.builtins = builtinsNs) (hf : env'.frame = some L') (hl : env'.locals = L') : Fs (X.inn env' L') :=
  .mk F.1 hk hg hb F.5 F.6 F.7 F.8 F.9 (Around.frames_deeper F.10) hf hk hf F.14 (by have := n_ar (m := 0) hn (Nat.le_refl (X.A.depth + 1)) (Nat.le_trans (Nat.le_of_eq (by rw [Nat.one_mul]; rfl)) F.15); rwa [Nat.one_mul] at this) (n_ar (m := 65) hn (Nat.add_le_add_left (by decide) _) F.16) (fun _ => hl) F.18
theorem Raw.inn (R : Raw X N T A Vw cs own s.heap s m) (F' : Fs (X.inn env' s.heap.objs.size)) (hk : ∀ b o, s.heap.get? b = some o → h₁.get? b = some o) (hns : h₁.Ns s.heap.objs.size m') : Raw (X.inn env' s.heap.objs.size) N T A Vw cs (ownW own s.heap.objs.size) s.heap { s with heap := h₁, toks := tk } m' := by
  have old : ∀ {b o}, s.heap.get? b = some o → b ≠ s.heap.objs.size := fun e => Nat.ne_of_lt (Heap.lt_size e)
  have oldO : ∀ {b}, own b ≠ .non → b ≠ s.heap.objs.size := fun q => let ⟨_, e⟩ := R.14 _ q; old e
  have bn : X.base.get? X.L = none := by
    cases q : X.base.get? X.L with
    | none => rfl
    | some o => cases (R.11 _ o q).2.symm.trans R.5
  obtain ⟨oL, esL, epL, gL, dL, _⟩ := id R.4
  obtain ⟨hF, xF⟩ := R.12
  refine ⟨F', R.2.mono (fun b o e => e) (fun b i q z => let ⟨_, e⟩ := z; ownW_wo (old e) q) fun b d i q => ownW_ob (oldO fun z => nomatch q.symm.trans z) q, hk, hns, if_pos rfl, rfl, R.7, fun t ht => have q := R.8 t ht; ⟨q.1.same (Ch := fun _ => False) (fun b o e _ => hk b o e) (fun _ _ f _ => f.elim) id, ownW_tab (oldO fun z => nomatch q.2.symm.trans z) q.2⟩, R.9, R.10,
    fun b o e => have q := R.11 b o e; ⟨q.1, ownW_non (old q.1) q.2⟩, ⟨s.heap, by rw [R.1.12]; decide, ⟨X.L, oL, R.1.11, bn, gL, fun vs q => nomatch dL.symm.trans q⟩, ff_of xF fun a ha => (R.13 a ha).2⟩, fun a ha => ?_, fun b hb => ?_, fun b o hb eo => ?_, fun b d i q => R.16 b d i (ob_ownW q)⟩
  · rw [List.filterMap_cons, R.1.11] at ha
    cases ha with
    | head => exact ⟨ownW_fr (old gL) R.5, oL, esL, epL, gL, dL⟩
    | tail _ ha =>
      have q := R.13 a ha
      obtain ⟨o, es, k, e, d⟩ := q.2
      exact ⟨ownW_non (old e) q.1, o, es, k, e, d⟩
  · exact ownW_of hb (fun q => q ▸ ns_ex hns) fun q => let ⟨o, e⟩ := R.14 b q; ⟨o, hk b o e⟩
  · exact ownW_of hb (fun q => ns_nr hns (q ▸ eo)) fun q => let ⟨o', e⟩ := R.14 b q; Option.some.inj ((hk b o' e).symm.trans eo) ▸ R.15 b o' q e
theorem Raw.out {X' : Cx} (R : Raw X N T A Vw cs own s.heap s m) (hX : X' = X.inn env' s.heap.objs.size) (R2 : Raw X' N T' A' Vw' cs' own' H' s' m') (K : Kpt (X'.outer.filterMap (·.frame)) (ownW own s.heap.objs.size) own' s.heap H') : Raw X N T' A' Vw' cs' (ownW own' X.L) s'.heap s' m := by
  subst hX
  have old : ∀ {b o}, s.heap.get? b = some o → b ≠ s.heap.objs.size := fun e => Nat.ne_of_lt (Heap.lt_size e)
  obtain ⟨oL, esL, epL, gL, dL, rL⟩ := id R.4
  obtain ⟨hF, xF⟩ := R.12
  have nL : own' X.L = .non := K.1 _ _ gL (ownW_fr (old gL) R.5)
  have ne : ∀ {b}, own' b ≠ .non → b ≠ X.L := fun h q => h (q ▸ nL)
  have nsL : s'.heap.Ns X.L m := let ⟨sl, e⟩ := K.2 _ _ gL (ownW_fr (old gL) R.5); ⟨_, esL, epL, R2.3 _ _ e, dL, rL⟩
  refine ⟨R.1, R2.2.mono R2.3 (fun b i q _ => ownW_wo (ne fun z => nomatch q.symm.trans z) q) fun b d i q => ownW_ob (ne fun z => nomatch q.symm.trans z) q, fun b o e => e, nsL, if_pos rfl, R.6, R.7, fun t ht => have q := R2.8 t ht; ⟨q.1, ownW_tab (ne fun z => nomatch q.2.symm.trans z) q.2⟩, R2.9, R2.10, fun b o e => ?_, R.12, fun a ha => ?_, fun b hb => ?_, fun b o hb eo => ?_, fun b d i q => ?_⟩
  · have q := R.11 b o e
    have w := ownW_non (own := own) (old q.1) q.2
    have nb : b ≠ X.L := fun z => nomatch q.2.symm.trans ((congrArg own z).trans R.5)
    refine ⟨R2.3 _ _ (K.3 b o q.1 w fun z => ?_), ownW_non nb (K.1 b o q.1 w)⟩
    rw [List.filterMap_cons, R.1.11] at z
    cases z with
    | head => exact nb rfl
    | tail _ z => exact nomatch (funFrames_out xF b z).symm.trans e
  · have q := R.13 a ha
    obtain ⟨o, es, k, e, d⟩ := q.2
    have w := ownW_non (own := own) (old e) q.1
    have na : a ≠ X.L := fun z => nomatch q.1.symm.trans ((congrArg own z).trans R.5)
    obtain ⟨sl, g⟩ := K.2 a o e w
    exact ⟨ownW_non na (K.1 a o e w), _, es, k, R2.3 _ _ g, d⟩
  · exact ownW_of hb (fun q => q ▸ ns_ex nsL) fun q => R2.14 b q
  · exact ownW_of hb (fun q => ns_nr nsL (q ▸ eo)) fun q => R2.15 b o q eo
  · obtain ⟨o, e⟩ := R2.16 b d i (ob_ownW q)
    exact ⟨o, R2.3 b o e⟩
inductive CelR (env' : Env) (h₁ : Heap) (L' c : Nat) (a : Addr) : Prop | mk (l : env'.cells.lookup (nm c) = some a) (lt : L' < a) (is : ∃ x, h₁.IsCell a x)
abbrev BodyW (X : Cx) (body : List Stmt) (env' : Env) (R : Result → Shared → Prop) (s : Shared) : Prop := wpAny X.M (X.A.deeper env') (PySem.execs body env') (fun fl s' => R (.ok (.ret (match fl with | .ret v => v | _ => .none))) s')
  (fun e s' => wpAny X.M (X.A.deeper env') (PySem.leaving env' e) (fun _ s'' => R (.error e) s'') (fun e' s'' => R (.error e') s'') s') s
theorem callR (R : Raw X N T A Vw cs own s.heap s m) (hn : 1 ≤ X.n) {F : IFun} {D : FD} (FO : FunOK (X.G.fo p V) X.P F D) {args : List SV} {loc : List (Nat × SV)} {ys : List Value} (hb : Mine.bindArgs [] F.dflts F.params args = some loc) (hkw : kwsOK F.params args [] = true) (da : All2 (Den V ρ) args ys) {Q : Result → Shared → Prop}
    (H : ∀ env' h₁ tk m', EnvIs D.scope D.qual D.cdv env' s.heap.objs.size → (∀ b o, s.heap.get? b = some o → h₁.get? b = some o) → Raw (X.inn env' s.heap.objs.size) N T A Vw cs (ownW own s.heap.objs.size) s.heap { s with heap := h₁, toks := tk } m' → (∀ z v, lk loc z = some v → z ∉ F.cells → ∃ y, m' (nm z) = some y ∧ Den V ρ v y) →
      (∀ c ∈ F.cells, ∃ a, CelR env' h₁ s.heap.objs.size c a) → (∀ c ∈ F.cells, ∀ c' ∈ F.cells, env'.cells.lookup (nm c) = env'.cells.lookup (nm c') → c = c') → BodyW X D.body env' Q { s with heap := h₁, toks := tk }) : codeAny X.M X.A (.call (.ref F.addr) ⟨ys, []⟩) Q s := by
  have K : X.G.K.In s.heap := R.1.5.keeps fun b o e => R.3 _ _ (R.11 b o e).1
  have B := bindVM FO.3.2 loc hb
  obtain ⟨binds, hbind, hrel⟩ := bind_rel (fd := D.fd) (s := s) (kw := []) rfl FO.3.1 (FO.5.imp id fun ⟨T, o, n, e1, e2, e3⟩ => ⟨T, o, n, e1, K _ _ e2, e3⟩) FO.3.2 B hkw da .nil FO.6 (FO.8 ρ) FO.7
  have hps := B.1
  have nd : (loc.map (·.1)).Nodup := hps ▸ FO.3.2
  have hfree : ∀ n, (cellsFrom n D.scope.names []).map (·.1) = (cellsFrom 0 D.scope.names []).map (·.1) := fun n => cellsFrom_names D.scope.names n 0 [] [] rfl
  have hIn : ∀ n, ∀ c ∈ F.cells, ∃ a, (cellsFrom n D.scope.names []).lookup (nm c) = some a := fun n c hc => lookup_in ((hfree n).symm ▸ (FO.9 c hc).2)
  have hloc : ∀ e ∈ loc, e.1 ∉ F.cells → D.scope.names.lookup (nm e.1) = some .local := fun e he => FO.10 e.1 (hps ▸ List.mem_map_of_mem (f := (·.1)) he)
  refine codeAny_call_function (Nat.lt_of_le_of_lt (Nat.le_trans (Nat.le_add_right ..) R.1.15) (by decide)) (K _ _ FO.1) rfl FO.3.3 FO.3.4 rfl (codeRec_of K FO.2) (hbind _ _ _ _ ?_)
  refine wpAny_newFunctionEnv_cells FO.3.5 (fun x hx => ?_) fun env' he s' x => ?_
  · obtain ⟨e, he, q⟩ := hrel.mem_r x hx
    rw [q.1]
    by_cases hc : e.1 ∈ F.cells
    · exact .inr ⟨(FO.9 _ hc).1, Option.isSome_iff_exists.mpr (hIn (s.heap.objs.size + 1) _ hc)⟩
    · exact .inl (hloc e he hc)
  obtain ⟨h₁, tk, rfl, _⟩ := x.done
  have hkeep := x.toInCall.keep
  have ba : ∀ b o, X.base.get? b = some o → s.heap.get? b = some o := fun b o e => R.3 _ _ (R.11 b o e).1
  refine ⟨(R.1.8.keeps ba).keeps hkeep, codeAny_func ?_⟩
  have e2 : env'.locals = s.heap.objs.size := by rw [he]; rfl
  have e3 : env'.cells = cellsFrom (s.heap.objs.size + 1) D.scope.names [] := by rw [he]; rfl
  have ek : ∀ z, env'.kindOf z = D.scope.names.lookup z := fun z => by rw [he]; rfl
  have EI : EnvIs D.scope D.qual D.cdv env' s.heap.objs.size := by rw [he]; exact ⟨rfl, rfl, rfl, rfl⟩
  have F' : Fs (X.inn env' s.heap.objs.size) := R.1.inR hn (EI.1 ▸ FO.3.5) (by rw [he]; rfl) (by rw [he]; rfl) (by rw [he]; rfl) e2
  have cad : ∀ c ∈ F.cells, ∃ a, env'.cells.lookup (nm c) = some a := fun c hc => e3 ▸ hIn _ c hc
  refine H env' h₁ tk _ EI hkeep (R.inn F' hkeep (e2 ▸ x.toInCall.ns)) (fun z v hz nc => ?_) (fun c hc => ?_) fun c hc c' hc' q => ?_
  · obtain ⟨y, hy, d⟩ := bound hrel nd hz
    exact ⟨y, (bindL_eq _ ((ek _).trans (hloc _ (lk_mem hz) nc))).trans (by rw [hy]; rfl), d⟩
  · obtain ⟨a, e⟩ := cad c hc
    exact ⟨a, e, e2 ▸ x.above (nm c) _ (mem_of_lookup e), _, x.cell _ _ e⟩
  · obtain ⟨a, e⟩ := cad c hc
    exact nm_inj (congrArg Prod.fst (apart_eq x.apart (mem_of_lookup e) (mem_of_lookup (q.symm.trans e)) rfl))
end
section
variable {N T T' n c : Nat} {A A' : Nat → Addr} {Vw Vw' : Val} {h h' h₁ H H' : Heap} {s s' : Shared} {m m' : PySem.Str → Option Value} {p : Obj} {cs cs' : List Cli} {own own' : Addr → Ow} {C : Cli} {env' : Env} {tk L' : Nat} {num : Int}
inductive Lw (G : Gl) (P : PT) : Prop | mk (hy : ∀ V, VOK V → ∀ o, Hyp (G.fo o V) P) (fn : ∀ a F, findFun a P.funs = some F → F.addr = a ∧ ∃ D, ∀ V, VOK V → ∀ o, FunOK (G.fo o V) P F D)
theorem Kpt.out {fs : List Addr} {L' L : Nat} {own : Addr → Ow} (K : Kpt (L :: fs) (ownW own L') own' H H') (hk : ∀ b o, H'.get? b = some o → h'.get? b = some o) (old : ∀ {b o}, H.get? b = some o → b ≠ L') (oL : own L = .fr) : Kpt fs own (ownW own' L) H h' :=
  have nb : ∀ {b}, own b = .non → b ≠ L := fun q z => nomatch q.symm.trans ((congrArg own z).trans oL)
  ⟨fun b o e q => ownW_non (nb q) (K.1 b o e (ownW_non (old e) q)), fun b o e q => let ⟨sl, g⟩ := K.2 b o e (ownW_non (old e) q); ⟨sl, hk _ _ g⟩, fun b o e q f => hk _ _ (K.3 b o e (ownW_non (old e) q) fun z => (List.mem_cons.mp z).elim (nb q) f)⟩
theorem EnvIs.okF {sc : Scope} {qual : PySem.Str} {cdv : Value} {code : Option Addr} {V : Val} (h : EnvIs sc qual cdv env' L') (hc : ∀ a, code = some a → cdv = .ref a) : EnvOK ⟨sc, qual ++ ".<locals>.", code, false⟩ ((X.inn env' L').fo p V) := have E := h.ok (X := X) hc; ⟨E.1, E.2, E.3, E.4⟩
theorem fun_one : ∃ F, findFun 1058 prog.funs = some F ∧ F.params = [n_world, n_number] ∧ F.cells = [] ∧ F.dflts = [] ∧ F.body = topBody 1058 := ⟨_, rfl, rfl, rfl, rfl, rfl⟩
theorem isTrueV_of {fl : Fl} (h : isTrueV fl = true) : fl = .ret (.bool true) := by
  cases fl with
  | ret v => exact congrArg Fl.ret (SV.eqb_of h)
  | _ => cases h
theorem run_body {X' : Cx} {cc : CK} {body : List IS} {be : List Stmt} {dn : Nat} (hy : ∀ o, Hyp (X'.G.withPin o) X'.P) (hP : X'.P = prog) (hh : X'.hd = none) (hn : fu FU ≤ X'.n) (EO : EnvOK cc X') (hc : cc.cmp = false) (fe : X'.env = X'.fenv) (den : (ckSs (ckS X'.P dn) cc body be).den X'.G) {fl : Fl}
    (h : execs (run prog FU) none body fr σ = some (fl, fr', σ')) : XT X' fr σ (PySem.execs be X'.env) fl fr' σ' :=
  execs_ok ((allCs FU X' hy hn).5 dn cc EO hc fe) den (fl, fr', σ') (by rw [hP, hh]; exact h)
theorem turn_call (LW : Lw X.G X.P) (hP : X.P = prog) (hXn : fu FU + 1 ≤ X.n) (R : Raw X N T A Vw cs own s.heap s m) (hc : cs[c]? = some C) (hL : C.L = []) (hN : 2 ≤ N) (hN3 : N ≤ 3) (hT : T ≤ 38) (hcn : Int.fmod num N = (c : Int)) {t : Tok} {Q : Result → Shared → Prop}
    (k : ∀ s' Vw' C' own', Raw X N (T + 1) A Vw' (cs.set c C') own' s'.heap s' m → Kpt (X.outer.filterMap (·.frame)) own own' s.heap s'.heap → Q (.ok (.ret (.bool true))) s') : codeAny X.M X.A (.call (.ref 1058) ⟨[.ref (A 0), .int num t], []⟩) Q s := by
  have I := R.2
  have B := I.6 c C hc
  have nl := Cli.nle B.1
  have cl := (List.getElem?_eq_some_iff.mp hc).1
  have c1 := I.3.1
  have c2 := I.3.2
  have e1 := I.1
  have vok : VOK (mixV Vw C.V num c N) := mix_vok I.2 B.2 B.4 c1 (by omega)
  have rw_ := rows_ok (num := num) (ρ := C.ρ) (n := C.n) B.4 (by omega : c < 1000) B.8 B.9 nl.1 I.4 hN hN3 c1 (by omega) (by omega) hcn
  obtain ⟨F, hF, fp, fc, fd, fb⟩ := fun_one
  obtain ⟨ea, D, FO⟩ := LW.2 1058 F (hP ▸ hF)
  rw [show (1058 : Addr) = F.addr from ea.symm]
  have rc := B.1
  rw [hL] at rc
  refine any_of (turnOK rc rw_.1) fun q hq b => any_of (an_bool b).2 fun m' _ b2 => ?_
  obtain ⟨e, he⟩ := Option.isSome_iff_exists.mp b2
  obtain ⟨fl, fr', σ'⟩ := q
  cases isTrueV_of (an_bool b).1
  refine callR (p := X.G.pin) (V := mixV Vw C.V num c N) (ρ := C.ρ) R (Nat.le_trans (Nat.le_add_left ..) hXn) (FO _ vok X.G.pin) (args := [.ref 0, .sint 0]) (loc := [(n_world, .ref 0), (n_number, .sint 0)]) (by rw [fp, fd]; with_unfolding_all rfl) (by rw [fp]; with_unfolding_all rfl) (.cons (congrArg Value.ref (B.6 0 (by decide)).symm) (.cons ⟨t, rfl⟩ .nil)) fun env' h₁ tk mm EI hk R1 hnm _ _ => ?_
  have I1 := R1.2
  have S1 := focus (p := X.G.pin) (V := mixV Vw C.V num c N) (fr := ⟨[(n_world, .ref 0), (n_number, .sint 0)], []⟩) (obs := C.ob) (eo := []) (ea := []) (rs := rows (clsOf num)) R1 (fun o => LW.1 _ vok o) (Nat.le_refl _) hc rfl (fun i so hi => ⟨((I1.objs hc hi).1.mv (Ch := fun _ => False) (fun b o e _ => hk b o e) (fun _ _ f => f.elim) id).oi, ob_lt B.1 hi⟩) (fun j so q => nomatch q) rw_.2
    (fun x v q => ⟨lk_all (p := fun _ v => SV.lt C.n v) (all_cons (a := (n_world, SV.ref 0)) (Nat.lt_trans (by decide) nl.1) (all_cons (a := (n_number, SV.sint 0)) trivial all_nil)) q, hnm x v q (by rw [fc]; exact List.not_mem_nil)⟩) (fun x i q => nomatch q)
  have XT' := run_body (X' := (X.inn env' s.heap.objs.size).fo X.G.pin (mixV Vw C.V num c N)) (fun o => LW.1 _ vok o) hP R.7 (Nat.le_sub_one_of_lt hXn) (EI.okF fun a => codeA_of) rfl rfl (FO _ vok X.G.pin).12 (by rw [fb]; exact hq)
  rw [show C.ob ++ [] = objsOf C.m [] by rw [List.append_nil, Cli.ob, hL]] at S1
  refine XT'.3 _ _ _ trivial S1 fun w2 x2 S2 f hf => ?_
  obtain ⟨y, rfl, d⟩ := hf
  cases d.1
  obtain ⟨own', RK⟩ := unfocus R1 hc rfl vok (by omega) S2 (Nat.le_of_eq (by rw [Cli.n, Cli.ob, hL]; rfl)) x2 he
  have fe : (X.fenv :: X.outer).filterMap (·.frame) = X.L :: X.outer.filterMap (·.frame) := by rw [List.filterMap_cons, R.1.11]
  exact k _ _ _ _ (R.out rfl RK.1 RK.2) (Kpt.out (fe ▸ RK.2) (fun b o e => e) (fun e => Nat.ne_of_lt (Heap.lt_size e)) R.5)
end
section
variable {N T T' n c : Nat} {A A' : Nat → Addr} {Vw Vw' : Val} {h h' h₁ H H' : Heap} {s s' : Shared} {m m' : PySem.Str → Option Value} {p : Obj} {cs cs' : List Cli} {own own' : Addr → Ow} {C : Cli} {env' : Env} {tk L' : Nat} {num : Int} {ea : List Addr} {eo : List SObj} {L : LL}
noncomputable def cut (h : Heap) (n : Nat) : Heap := ⟨h.objs.take n, h.life⟩
theorem cut_get {b : Nat} : (cut h n).get? b = if b < n then h.get? b else none := by
  unfold cut Heap.get?
  dsimp only
  rw [Array.take_eq_extract, Array.getElem?_extract]
  by_cases q : b < n
  · by_cases z : b < h.objs.size
    · rw [if_pos q, if_pos (by omega), Nat.zero_add]
    · rw [if_pos q, if_neg (by omega), Array.getElem?_eq_none (by omega)]
  · rw [if_neg q, if_neg (by omega)]
theorem cut_size : (cut h n).objs.size ≤ n := by
  unfold cut
  rw [Array.take_eq_extract, Array.size_extract]
  exact Nat.le_trans (Nat.sub_le _ _) (Nat.min_le_left _ _)
theorem cut_of {b : Nat} {o : Obj} (e : (cut h n).get? b = some o) : An (h.get? b = some o) (b < n) := by
  rw [cut_get] at e
  by_cases q : b < n
  · rw [if_pos q] at e; exact ⟨e, q⟩
  · rw [if_neg q] at e; cases e
theorem cut_at {b : Nat} {o : Obj} (e : h.get? b = some o) (hb : b < n) : (cut h n).get? b = some o := cut_get.trans ((if_pos hb).trans e)
theorem at19 {m : Mu} : (objsOf m L)[19]? = some (.fn 6 [(n_world, 20), (n_c, 21)]) := rfl
noncomputable def notFn (o : SObj) : Bool := o.sel true (fn' := fun _ _ => false)
theorem nofn_ok : reach.all (fun x => (lookO x.1 x.2).all notFn) = true := by decide +kernel
theorem OJ.at {so : SObj} {a : Addr} (x : OJ G V ρ h a so) (nf : notFn so = true) (hk : ∀ o, h.get? a = some o → h'.get? a = some o) : OJ G V ρ h' a so := by
  cases x with | mk o e d y kb => exact ⟨o, hk o e, d, by cases so with | fn => cases nf | _ => trivial, kb⟩
theorem lk_idl' {i : Nat} (h : i < n) : lk (idl n) i = some i := lk_of (by show ((List.range n).map fun i => (i, i)).map (·.1) |>.Nodup; rw [List.map_map]; exact (List.map_id _).symm ▸ List.nodup_range) (List.mem_map_of_mem (f := fun i => (i, i)) (List.mem_range.mpr h))
inductive ExS (so : SObj) : Option SObj → Prop | cell (v : Option SV) (h : so = .cell none) : ExS so (some (.cell v)) | it (a b : Int) (h : so = .riter a b) : ExS so (some (.riter a b))
theorem ExS.oi {cl : Addr → Cl} {i : Nat} {a : Addr} {so : SObj} {o' : Option SObj} (x : ExS so o') (hs : ∀ so', o' = some so' → OI (G.fo p V) cl ρ h i a so') : An (∃ so', o' = some so') (∃ o, h.get? a = some o ∧ ExD so o) := by
  cases x with
  | cell v h =>
    cases h
    cases hs _ rfl with | mk o e d _ => cases d with | mk x dd r => exact ⟨⟨_, rfl⟩, o, e, .cell o x dd⟩
  | it a b h =>
    cases h
    cases hs _ rfl with | mk o e d _ => exact ⟨⟨_, rfl⟩, o, e, (show o = riterObj a b from d) ▸ .it a b⟩
noncomputable def gL (c n' n q j : Nat) : Ow := if j < n' then tagO c j else if j < n then .non else if j < n + q then .ex (j - n) else .non
theorem gL_of {n' q j : Nat} {C' : Prop} (h : gL c n' n q j ≠ .non) (k1 : j < n' → C') (k2 : ∀ k, k < q → j = n + k → gL c n' n q j = .ex k → C') : C' := by
  by_cases q1 : j < n'
  · exact k1 q1
  · unfold gL at h k2
    rw [if_neg q1] at h k2
    by_cases q2 : j < n
    · rw [if_pos q2] at h; exact absurd rfl h
    · rw [if_neg q2] at h k2
      by_cases q3 : j < n + q
      · obtain ⟨k, rfl⟩ := Nat.exists_eq_add_of_le (Nat.le_of_not_lt q2)
        exact k2 k (Nat.lt_of_add_lt_add_left q3) rfl ((if_pos q3).trans (congrArg Ow.ex (Nat.add_sub_cancel_left ..)))
      · rw [if_neg q3] at h; exact absurd rfl h
theorem gL_ex {n' q k : Nat} (h1 : n' ≤ n) (h : k < q) : gL c n' n q (n + k) = .ex k := by
  unfold gL
  rw [if_neg (Nat.not_lt.mpr (Nat.le_trans h1 (Nat.le_add_right ..))), if_neg (Nat.not_lt.mpr (Nat.le_add_right ..)), if_pos (Nat.add_lt_add_left h _), Nat.add_sub_cancel_left]
set_option maxHeartbeats 1000000 in
theorem unfocusL {V : Val} (R : Raw X N T A Vw cs own H s m) (sz : H.objs.size ≤ X.L) (hc : cs[c]? = some C) (hv : V = mixV Vw C.V num c N) (vok : VOK V) (hp : H.get? (C.ρ 19) = some p) (S' : At (X.fo p V) fr' σ' w') (x : Ex X.outer (C.n + eo.length) (Wd.foc own H c C ea s m) w') (hl : landI C.m L C.n σ'.objs = true)
    (hE : ∀ j so, eo[j]? = some so → ExS so σ'.objs[C.n + j]?) : ∃ V' ρ' own', An (Raw X N T A V' (cs.set c ⟨C.m, L, V', ρ'⟩) own' (cut w'.s.heap X.L) w'.s w'.m) (An (Kpt (X.outer.filterMap (·.frame)) own own' H (cut w'.s.heap X.L)) (∀ j so, eo[j]? = some so → ExA own' w'.s.heap j (ea.getD j 0) so)) := by
  subst hv
  have I := R.2
  have B := I.6 c C hc
  have b1 := an_bool hl
  have b2 := an_bool b1.2
  have b3 := an_bool b2.2
  have le := Nat.le_of_ble_eq_true b1.1
  have rc : (C.m, L) ∈ reach := inReach_of b3.1
  have nl := Cli.nle (C := ⟨C.m, L, C.V, C.ρ⟩) rc
  have lt : ∀ {b o}, H.get? b = some o → b < X.L := fun e => Nat.lt_of_lt_of_le (Heap.lt_size e) sz
  have x1 : ∀ i, i < C.n → w'.ρ i = C.ρ i := fun i hi => (x.1 i (Nat.lt_of_lt_of_le hi (Nat.le_add_right ..))).trans (rhoF_lo hi)
  have I0 : Into (idE (objsOf C.m L).length) (mixV Vw C.V num c N) w'.ρ (landV (idE (objsOf C.m L).length) (mixV Vw C.V num c N) w'.ρ) (landR (idE (objsOf C.m L).length) w'.ρ) := into_land rfl rfl
  have rR : ∀ i, i < (objsOf C.m L).length → landR (idE (objsOf C.m L).length) w'.ρ i = w'.ρ i := fun i hi => congrArg (fun o => o.elim 0 w'.ρ) (lk_idl' hi)
  have hL : ∀ {i so}, (lookO C.m L)[i]? = some so → ∃ b, σ'.objs[i]? = some b ∧ emO (idE (objsOf C.m L).length) so b = true := fun hi => by
    obtain ⟨j, b, h1, h2, h3⟩ := emAll_at b2.1 hi
    cases idl_of h1
    exact ⟨b, h2, h3⟩
  have ow : ∀ i, i < (objsOf C.m L).length → i < σ'.objs.length → ownT X own c (gL c (objsOf C.m L).length C.n eo.length) w' (w'.ρ i) = tagO c i := fun i hi hl => ownT_ob S' hl (if_pos hi)
  have LL : ∀ i so, (objsOf C.m L)[i]? = some so → An (OJ X.G (landV (idE (objsOf C.m L).length) (mixV Vw C.V num c N) w'.ρ) (landR (idE (objsOf C.m L).length) w'.ρ) (cut w'.s.heap X.L) (landR (idE (objsOf C.m L).length) w'.ρ i) so) (ownT X own c (gL c (objsOf C.m L).length C.n eo.length) w' (landR (idE (objsOf C.m L).length) w'.ρ i) = tagO c i) := fun i so hi => by
    have hn := (List.getElem?_eq_some_iff.mp hi).1
    have hnC := Nat.lt_of_lt_of_le hn le
    have low : w'.ρ i < X.L := by
      rw [x1 i hnC]
      obtain ⟨o, e⟩ := (I.objs (num := 0) hc (List.getElem?_eq_getElem (show i < C.ob.length from hnC))).1.ex
      exact lt e
    rw [rR i hn]
    by_cases q : i = 19
    · subst q
      cases at19.symm.trans hi
      obtain ⟨b, h2, h3⟩ := hL (i := 19) (so := .pin) (List.getElem?_set_self hn)
      refine ⟨?_, ow 19 hn (SS.at_lt h2)⟩
      have hb : b = .pin := by cases b with | pin => rfl | _ => cases h3
      subst hb
      have g : w'.s.heap.get? (w'.ρ 19) = some p := S'.at_ h2 fun o e d => (show o = p from d) ▸ e
      have y := ((I.objs (num := num) hc (show C.ob[19]? = _ from at19)).1.ext (fun i hi => x1 i hi) (ob_lt B.1 at19)).to I0 (t := .fn 6 [(n_world, 20), (n_c, 21)]) (by
        show (true && ((true && ((lk (idl (objsOf C.m L).length) 20).any fun k => Nat.beq k 20)) && ((true && ((lk (idl (objsOf C.m L).length) 21).any fun k => Nat.beq k 21)) && true))) = true
        rw [lk_idl' (Nat.lt_trans (by decide) nl.1), lk_idl' (Nat.lt_trans (by decide) nl.1)]; rfl) (nomatch ·)
      cases y with
      | mk o e d y kb =>
        cases hp.symm.trans e
        refine ⟨p, cut_at g low, d, codeRec_nr (Ch := fun b => clF own H c C.n b ≠ .kept ∨ b ∈ X.outer.filterMap (·.frame)) (fun b o eb hb => cut_at ((kept_K S' x eb (Classical.byContradiction fun z => hb (.inl z))).2.2 fun z => hb (.inr z)) (lt eb)) (fun b o hb eb => hb.elim (fun z => R.15 b o (fun q => z (clF_non eb q)) (R.3 b o eb)) fun z => dict_nr (R.13 b z).2 eb) y, kb⟩
    · have hi' : (lookO C.m L)[i]? = some so := (List.getElem?_set_ne (Ne.symm q)).trans hi
      obtain ⟨b, h2, h3⟩ := hL hi'
      refine ⟨?_, ow i hn (SS.at_lt h2)⟩
      have y := OI.land I0 h3 (not_pin rc hi) (S'.1 i b h2).1
      exact y.at (List.all_eq_true.mp (List.all_eq_true.mp nofn_ok _ rc) so (List.mem_of_getElem? hi')) fun o e => cut_at e low
  have exs : ∀ j so, eo[j]? = some so → An (ownT X own c (gL c (objsOf C.m L).length C.n eo.length) w' (w'.ρ (C.n + j)) = .ex j) (∃ o, w'.s.heap.get? (w'.ρ (C.n + j)) = some o ∧ ExD so o) := fun j so hj => by
    have y := (hE j so hj).oi fun so' e => (S'.1 (C.n + j) so' e).1
    obtain ⟨so', e⟩ := y.1
    exact ⟨ownT_ob S' (SS.at_lt e) (gL_ex le (List.getElem?_eq_some_iff.mp hj).1), y.2⟩
  have r0 : ∀ i ∈ List.range 5 ++ [5, 22], landR (idE (objsOf C.m L).length) w'.ρ i = C.ρ i := fun i hi => by
    have hlt : i < (objsOf C.m L).length := by
      rcases List.mem_append.mp hi with q | q
      · exact Nat.lt_trans (List.mem_range.mp q) (Nat.lt_trans (by decide) nl.1)
      · rcases List.mem_cons.mp q with q | q
        · exact q ▸ Nat.lt_trans (by decide) nl.1
        · exact (List.mem_singleton.mp q) ▸ nl.1
    exact (rR i hlt).trans (x1 i (Nat.lt_of_lt_of_le hlt le))
  have gg : ∀ j, gL c (objsOf C.m L).length C.n eo.length j ≠ .non → An (∃ o, w'.s.heap.get? (w'.ρ j) = some o ∧ NoRec o) (∀ d i, gL c (objsOf C.m L).length C.n eo.length j = .ob d i → ∃ o, (cut w'.s.heap X.L).get? (w'.ρ j) = some o) := fun j hj => gL_of hj (fun q => by
      have z := (LL j _ (List.getElem?_eq_getElem q)).1
      rw [rR j q] at z
      obtain ⟨o, g⟩ := z.ex
      exact ⟨⟨o, (cut_of g).1, z.noRec g⟩, fun _ _ _ => ⟨o, g⟩⟩) fun k hk q1 q2 => ⟨q1 ▸ (let ⟨o, e, d⟩ := (exs k _ (List.getElem?_eq_getElem hk)).2; ⟨o, e, d.nr⟩), fun d i z => nomatch q2.symm.trans z⟩
  have c1 : (landV (idE (objsOf C.m L).length) (mixV Vw C.V num c N) w'.ρ).int 1 = (c : Int) := rfl
  have c2 : (landV (idE (objsOf C.m L).length) (mixV Vw C.V num c N) w'.ρ).int 5 = Vw.int 5 := rfl
  have c3 : (landV (idE (objsOf C.m L).length) (mixV Vw C.V num c N) w'.ρ).dic 0 = C.V.dic 0 := rfl
  have c4 : (landV (idE (objsOf C.m L).length) (mixV Vw C.V num c N) w'.ρ).lst = Vw.lst := rfl
  have vk := land_vok (m := idE (objsOf C.m L).length) (ρ := w'.ρ) rfl (fun i js q => nomatch q) vok
  have key : ∀ V', VOK V' → V'.int 1 = (c : Int) → V'.int 5 = Vw.int 5 → V'.dic 0 = C.V.dic 0 → V'.lst = Vw.lst → (∀ i so, (objsOf C.m L)[i]? = some so → An (OJ X.G V' (landR (idE (objsOf C.m L).length) w'.ρ) (cut w'.s.heap X.L) (landR (idE (objsOf C.m L).length) w'.ρ i) so) (ownT X own c (gL c (objsOf C.m L).length C.n eo.length) w' (landR (idE (objsOf C.m L).length) w'.ρ i) = tagO c i)) →
      An (Raw X N T A V' (cs.set c ⟨C.m, L, V', landR (idE (objsOf C.m L).length) w'.ρ⟩) (ownT X own c (gL c (objsOf C.m L).length C.n eo.length) w') (cut w'.s.heap X.L) w'.s w'.m) (Kpt (X.outer.filterMap (·.frame)) own (ownT X own c (gL c (objsOf C.m L).length C.n eo.length) w') H (cut w'.s.heap X.L)) :=
    fun V' vk c1 c2 c3 c4 LL => behind R hc (Nat.le_refl T) S' x (fun b o e => (cut_of e).1) (fun b o o' e g => cut_at g (lt e)) rfl rc vk ⟨c1, c2 ▸ I.3⟩ (c3 ▸ B.4) c4 LL r0 gg
  have BH := key _ vk c1 c2 c3 c4 LL
  refine ⟨_, _, _, BH.1, BH.2, fun j so hj => ?_⟩
  have z := exs j so hj
  have r : w'.ρ (C.n + j) = ea.getD j 0 := (x.1 _ (Nat.add_lt_add_left (List.getElem?_eq_some_iff.mp hj).1 _)).trans rhoF_hi
  rw [r] at z
  exact let ⟨o, e, d⟩ := z.2; ⟨z.1, o, e, d⟩
end
section
variable {N T T' n c : Nat} {A A' : Nat → Addr} {Vw Vw' : Val} {h h' h₁ H H' : Heap} {s s' : Shared} {m m' : PySem.Str → Option Value} {p : Obj} {cs cs' : List Cli} {own own' : Addr → Ow} {C : Cli} {env' : Env} {tk L' : Nat} {num : Int} {ea : List Addr} {eo : List SObj} {L : LL}
theorem TabOK.nr {t : Tab} (Ch : Addr → Prop) (hk : ∀ b o, h.get? b = some o → ¬ Ch b → h'.get? b = some o) (hd : ∀ b o, Ch b → h.get? b = some o → NoRec o) (ne : ¬ Ch t.P) (x : TabOK h t) : TabOK h' t := by
  cases x with | mk ps e r q => exact .mk ps (hk _ _ e ne) r fun p hp => (q p hp).imp id fun ⟨c, e, r⟩ => ⟨c, e, codeRec_nr hk hd r⟩
theorem Raw.chg (R : Raw X N T A Vw cs own H s m) {x : Addr} (hk : ∀ b o, s.heap.get? b = some o → b ≠ x → h'.get? b = some o) (hH : ∀ b o, H.get? b = some o → b ≠ x → H'.get? b = some o) (sub : ∀ b o, H'.get? b = some o → h'.get? b = some o) (bx : X.base.get? x = none) (fx : x ∉ X.outer.filterMap (·.frame))
    (ox : own x = .non ∨ own x = .fr ∨ ∃ j, own x = .ex j) (ns : h'.Ns X.L m') (ex : ∃ o, h'.get? x = some o ∧ (own x ≠ .non → NoRec o)) (nx : ∀ o, s.heap.get? x = some o → NoRec o) : Raw X N T A Vw cs own H' { s with heap := h', toks := tk } m' := by
  have nb : ∀ {b o}, own b = o → o ≠ .non → o ≠ .fr → (∀ j, o ≠ .ex j) → b ≠ x := fun {b o} e n1 n2 n3 q => by
    subst q
    exact ox.elim (fun z => n1 (e.symm.trans z)) fun z => z.elim (fun z => n2 (e.symm.trans z)) fun ⟨j, z⟩ => n3 j (e.symm.trans z)
  have hd : ∀ b o, b = x → H.get? b = some o → NoRec o := fun b o q e => nx o (q ▸ R.3 b o e)
  refine ⟨R.1, R.2.mv (fun b => b = x) hH hd (fun b i q _ => ⟨q, nb q (nomatch ·) (nomatch ·) (fun _ => (nomatch ·))⟩) fun b d i q => ⟨q, nb q (nomatch ·) (nomatch ·) (fun _ => (nomatch ·))⟩, sub, ns, R.5, R.6, R.7, fun t ht => have q := R.8 t ht; ⟨q.1.nr (fun b => b = x) hk (fun b o z e => nx o (z ▸ e)) (nb q.2 (nomatch ·) (nomatch ·) (fun _ => (nomatch ·))), q.2⟩, R.9, R.10, fun b o e => have q := R.11 b o e; ⟨hH b o q.1 (fun z => nomatch (z ▸ bx : X.base.get? b = none).symm.trans e), q.2⟩,
    R.12, fun a ha => have q := R.13 a ha; ⟨q.1, let ⟨o, es, k, e, d⟩ := q.2; ⟨o, es, k, hH a o e fun z => fx (z ▸ ha), d⟩⟩, fun b hb => ?_, fun b o hb eo => ?_, fun b d i q => let ⟨o, e⟩ := R.16 b d i q; ⟨o, hH b o e (nb q (nomatch ·) (nomatch ·) (fun _ => (nomatch ·)))⟩⟩
  · by_cases z : b = x
    · obtain ⟨o, e, _⟩ := ex; exact ⟨o, z ▸ e⟩
    · obtain ⟨o, e⟩ := R.14 b hb; exact ⟨o, hk b o e z⟩
  · by_cases z : b = x
    · obtain ⟨o', e, q⟩ := ex; exact Option.some.inj ((z ▸ e : h'.get? b = some o').symm.trans eo) ▸ q (z ▸ hb)
    · obtain ⟨o', e⟩ := R.14 b hb; exact Option.some.inj ((hk b o' e z).symm.trans eo) ▸ R.15 b o' hb e
theorem Raw.grow (R : Raw X N T A Vw cs own H s m) (hk : ∀ b o, s.heap.get? b = some o → h'.get? b = some o) : Raw X N T A Vw cs own H { s with heap := h', toks := tk } m :=
  ⟨R.1, R.2, fun b o e => hk b o (R.3 b o e), ns_at R.4 fun o e => hk _ o e, R.5, R.6, R.7, fun t ht => have q := R.8 t ht; ⟨q.1.nr (fun _ => False) (fun b o e _ => hk b o e) (fun _ _ f => f.elim) id, q.2⟩, R.9, R.10, R.11, R.12, R.13, fun b hb => let ⟨o, e⟩ := R.14 b hb; ⟨o, hk b o e⟩, fun b o hb eo => let ⟨o', e⟩ := R.14 b hb; Option.some.inj ((hk b o' e).symm.trans eo) ▸ R.15 b o' hb e, R.16⟩
noncomputable def ownM (own : Addr → Ow) (x : Addr) (j : Nat) (b : Addr) : Ow := if b = x then .ex j else own b
theorem ownM_ne {x b : Addr} {j : Nat} {o : Ow} (h : own b = o) (n : o ≠ .non) (hx : own x = .non) : ownM own x j b = o := (if_neg fun q : b = x => n (h.symm.trans ((congrArg own q).trans hx))).trans h
theorem Raw.mark (R : Raw X N T A Vw cs own H s m) {x : Addr} {j : Nat} (hx : own x = .non) (hH : H.get? x = none) (e : ∃ o, s.heap.get? x = some o ∧ NoRec o) : Raw X N T A Vw cs (ownM own x j) H s m := by
  have ne : ∀ {b}, (∃ o, H.get? b = some o) → b ≠ x := fun z q => by
    obtain ⟨o, g⟩ := z
    rw [q, hH] at g
    exact nomatch g
  refine ⟨R.1, R.2.mono (fun b o e => e) (fun b i q _ => ownM_ne q (nomatch ·) hx) fun b d i q => ownM_ne q (nomatch ·) hx, R.3, R.4, ownM_ne R.5 (nomatch ·) hx, R.6, R.7, fun t ht => have q := R.8 t ht; ⟨q.1, ownM_ne q.2 (nomatch ·) hx⟩, R.9, R.10, fun b o eb => have q := R.11 b o eb; ⟨q.1, (if_neg (ne ⟨o, q.1⟩)).trans q.2⟩, R.12, fun a ha => have q := R.13 a ha; ⟨(if_neg (ne (let ⟨o, _, _, e, _⟩ := q.2; ⟨o, e⟩))).trans q.1, q.2⟩, fun b hb => ?_, fun b o hb eo => ?_, fun b d i q => ?_⟩
  · by_cases z : b = x
    · obtain ⟨o, e, _⟩ := e; exact ⟨o, z ▸ e⟩
    · exact R.14 b fun q => hb ((if_neg z).trans q)
  · by_cases z : b = x
    · obtain ⟨o', e, q⟩ := e; exact Option.some.inj ((z ▸ e : s.heap.get? b = some o').symm.trans eo) ▸ q
    · exact R.15 b o (fun q => hb ((if_neg z).trans q)) eo
  · have q : ownM own x j b = .ob d i := q
    unfold ownM at q
    by_cases z : b = x
    · rw [if_pos z] at q; cases q
    · rw [if_neg z] at q; exact R.16 b d i q
end
section
variable {N T T' n c : Nat} {A A' : Nat → Addr} {Vw Vw' : Val} {h h' h₁ H H' : Heap} {s s' : Shared} {m m' : PySem.Str → Option Value} {p : Obj} {cs cs' : List Cli} {own own' : Addr → Ow} {C : Cli} {env' : Env} {tk L' : Nat} {num : Int} {ea : List Addr} {eo x : List SObj} {L : LL} {rs : List Row} {loc : List (Nat × SV)}
inductive LkC (X : Cx) (ea : List Addr) (N T : Nat) : Prop | mk (LW : Lw X.G X.P) (hP : X.P = prog) (hn : fu FU ≤ X.n) (n2 : 2 ≤ N) (n3 : N ≤ 3) (t38 : T ≤ 38) (l0 : X.env.cells.lookup (nm n_client) = some (ea.getD 0 0)) (l1 : X.env.cells.lookup (nm n_own) = some (ea.getD 1 0)) (fe : X.env = X.fenv)
inductive Lk (X : Cx) (N T : Nat) (A : Nat → Addr) (Vw : Val) (cs : List Cli) (own : Addr → Ow) (H : Heap) (s : Shared) (m : PySem.Str → Option Value) (ea : List Addr) (x : List SObj) : Prop | mk (R : Raw X N T A Vw cs own H s m) (sz : H.objs.size ≤ X.L) (E : ∀ j so, (exO x)[j]? = some so → ExA own s.heap j (ea.getD j 0) so)
  (w : m (nm n_world) = some (.ref (A 0)))
theorem LkC.vok (LC : LkC X ea N T) (R : Raw X N T A Vw cs own H s m) (hc : cs[c]? = some C) : VOK (mixV Vw C.V num c N) := mix_vok R.2.2 (R.2.6 c C hc).2 (R.2.6 c C hc).4 R.2.3.1 (by have := R.2.3.2; have := LC.6; omega)
theorem exO_len : (exO x).length = 2 + x.length := Nat.add_comm _ 2
theorem exO_at {j : Nat} {so : SObj} (h : (exO x)[j]? = some so) : j < 2 + x.length := exO_len ▸ (List.getElem?_eq_some_iff.mp h).1
theorem look_at (LC : LkC X ea N T) (K : Lk X N T A Vw cs own H s m ea x) (hc : cs[c]? = some C) (hp : H.get? (C.ρ 19) = some p) (hr : ∀ r ∈ rs, RW (mixV Vw C.V 0 c N) C.ρ C.n r) (hn : ∀ z v, Mine.lk loc z = some v → An (v.lt C.n) (∃ y, m (nm z) = some y ∧ Den (mixV Vw C.V 0 c N) C.ρ v y)) :
    At (X.fo p (mixV Vw C.V 0 c N)) ⟨loc, seenCel C.n⟩ (lookS C.m C.L x rs) (Wd.foc own H c C ea s m) := by
  have R := K.1
  have I := R.2
  have B := I.6 c C hc
  have len : (lookO C.m C.L ++ exO x).length = C.n + (2 + x.length) := by rw [List.length_append, exO_len]; exact congrArg (· + _) List.length_set
  refine focus R (fun o => LC.1.1 _ (LC.vok R hc) o) K.2 hc List.length_set (fun i so hi => ?_) K.3 hr hn fun z i hz => lk_all (p := fun z i => An (X.env.cells.lookup (nm z) = some (rhoF C ea i)) (i < (lookO C.m C.L ++ exO x).length)) (all_cons (a := (n_own, C.n + 1)) ⟨LC.8.trans (congrArg some rhoF_hi.symm), len ▸ by omega⟩ (all_cons (a := (n_client, C.n)) ⟨LC.7.trans (congrArg some (rhoF_hi (j := 0)).symm), len ▸ by omega⟩ all_nil)) hz
  by_cases q : i = 19
  · subst q
    have hl := (List.getElem?_eq_some_iff.mp hi).1
    have e : (lookO C.m C.L)[19]? = some .pin := List.getElem?_set_self (by rwa [show (lookO C.m C.L).length = _ from List.length_set] at hl)
    cases e.symm.trans hi
    exact ⟨⟨p, R.3 _ _ hp, rfl, trivial⟩, trivial⟩
  · have hi : C.ob[i]? = some so := (List.getElem?_set_ne (Ne.symm q)).symm.trans hi
    exact ⟨((I.objs hc hi).1.mv (Ch := fun _ => False) (fun b o e _ => R.3 b o e) (fun _ _ f => f.elim) id).oi, ob_lt B.1 hi⟩
theorem look_run {α : Type} {t : Sem α} {o : Cx → Oc α} (LC : LkC X ea N T) (K : Lk X N T A Vw cs own H s m ea x) (hc : cs[c]? = some C) (hr : ∀ r ∈ rs, RW (mixV Vw C.V 0 c N) C.ρ C.n r) (hn : ∀ z v, Mine.lk loc z = some v → An (v.lt C.n) (∃ y, m (nm z) = some y ∧ Den (mixV Vw C.V 0 c N) C.ρ v y))
    (Ht : ∀ p, T3 (X.fo p (mixV Vw C.V 0 c N)) ⟨loc, seenCel C.n⟩ (lookS C.m C.L x rs) t fr' σ' (o (X.fo p (mixV Vw C.V 0 c N)))) (hl : landI C.m L C.n σ'.objs = true) {y : List SObj} (hE : ∀ j so, (exO y)[j]? = some so → ExS so σ'.objs[C.n + j]?) (hy : y.length ≤ x.length) {Q : α → Shared → Prop} {E : Value → Shared → Prop}
    (k : ∀ p w2 V' ρ' own', Raw X N T A V' (cs.set c ⟨C.m, L, V', ρ'⟩) own' (cut w2.s.heap X.L) w2.s w2.m → Kpt (X.outer.filterMap (·.frame)) own own' H (cut w2.s.heap X.L) → (∀ j so, (exO y)[j]? = some so → ExA own' w2.s.heap j (ea.getD j 0) so) → (Mine.lk fr'.loc n_world = some (.ref 0) → w2.m (nm n_world) = some (.ref (A 0))) →
      At (X.fo p (mixV Vw C.V 0 c N)) fr' σ' w2 → (o (X.fo p (mixV Vw C.V 0 c N))).post Q E w2) : wpAny X.M X.A t Q E s := by
  have R := K.1
  have B := R.2.6 c C hc
  obtain ⟨p, hp⟩ := (R.2.objs (num := 0) hc (show C.ob[19]? = _ from at19)).1.ex
  have S1 := look_at (rs := rs) (loc := loc) LC K hc hp hr hn
  have nl := (Cli.nle B.1).1
  have len : (lookS C.m C.L x rs).objs.length = C.n + (2 + x.length) := by show (lookO C.m C.L ++ exO x).length = _; rw [List.length_append, exO_len]; exact congrArg (· + _) List.length_set
  refine (Ht p).3 (Wd.foc own H c C ea s m) Q E trivial S1 fun w2 x2 S2 => ?_
  have xx : Ex X.outer (C.n + (exO y).length) (Wd.foc own H c C ea s m) w2 := ⟨fun i hi => x2.1 i (Nat.lt_of_lt_of_le hi (by rw [len, exO_len]; omega)), x2.2, x2.3, x2.4, x2.5⟩
  obtain ⟨V', ρ', own', U⟩ := unfocusL R K.2 hc rfl (LC.vok R hc) hp S2 xx hl hE
  refine k p w2 V' ρ' own' U.1 U.2.1 U.2.2 (fun hw => ?_) S2
  cases S2.8 _ _ hw with
  | mk lt y e d =>
    have em : w2.m = w2.me := ns_unique S2.4 (R.1.17 R.6 ▸ S2.5)
    rw [em, e]
    exact congrArg some ((show y = .ref (w2.ρ 0) from d).trans (congrArg Value.ref ((x2.1 0 (by rw [len]; omega)).trans ((rhoF_lo (ea := ea) (Nat.lt_trans (by decide) nl)).trans (B.6 0 (by decide))))))
end
section
variable {N T T' n c : Nat} {A A' : Nat → Addr} {Vw Vw' : Val} {h h' h₁ H H' : Heap} {s s' : Shared} {m m' : PySem.Str → Option Value} {p : Obj} {cs cs' : List Cli} {own own' own₁ : Addr → Ow} {C : Cli} {env' : Env} {tk L' : Nat} {num : Int} {ea : List Addr} {eo x : List SObj} {L : LL} {rs : List Row} {loc : List (Nat × SV)} {y : SObj} {c0 c1 a : Addr}
theorem exO3 {P : Nat → SObj → Prop} (h0 : P 0 (.cell none)) (h1 : P 1 (.cell none)) (h2 : P 2 y) : ∀ j so, (exO [y])[j]? = some so → P j so := fun j so h => match j, h with
  | 0, h => Option.some.inj h ▸ h0
  | 1, h => Option.some.inj h ▸ h1
  | 2, h => Option.some.inj h ▸ h2
theorem exO2 {P : Nat → SObj → Prop} (h0 : P 0 (.cell none)) (h1 : P 1 (.cell none)) : ∀ j so, (exO [])[j]? = some so → P j so := fun j so h => match j, h with
  | 0, h => Option.some.inj h ▸ h0
  | 1, h => Option.some.inj h ▸ h1
theorem isNext_of {fl : Fl} (h : isNext fl = true) : fl = .next := by
  cases fl with
  | next => rfl
  | _ => cases h
theorem isCell_of {o : SObj} (h : isCell o = true) : ∃ v, o = .cell v := by
  cases o with
  | cell v => exact ⟨v, rfl⟩
  | _ => cases h
theorem exOK_of {l : List SObj} (h : exOK n l = true) : An (ExS (.cell none) l[n]?) (ExS (.cell none) l[n + 1]?) :=
  have b := an_bool h
  ⟨any_of b.1 fun o e q => let ⟨v, q⟩ := isCell_of q; e ▸ q ▸ .cell v rfl, any_of b.2 fun o e q => let ⟨v, q⟩ := isCell_of q; e ▸ q ▸ .cell v rfl⟩
theorem landI_ex {m : Mu} {l : List SObj} (h : landI m L n l = true) : An (ExS (.cell none) l[n]?) (ExS (.cell none) l[n + 1]?) := exOK_of (an_bool (an_bool (an_bool h).2).2).2
inductive BodyR (a b : Int) (m : Mu) (L : LL) : Prop | mk (fr' : SFr) (σ' : SS) (e : execs (run prog FU) none seenBody ⟨[(n_world, .ref 0), (n_c, .sint 1)], seenCel (objsOf m L).length⟩ (lookS m L [.riter a b] rowsS) = some (.next, fr', σ')) (w : Mine.lk fr'.loc n_world = some (.ref 0)) (l : landI m [] (objsOf m L).length σ'.objs = true) (i : σ'.objs[(objsOf m L).length + 2]? = some (.riter a b))
theorem bodyR {m : Mu} (rc : (m, L) ∈ reach) (a b : Int) : BodyR a b m L := Ok.at (φ := fun o => o = .riter a b → BodyR a b m L) (x := bodyQ a b m L) (.bind fun q e => .wh fun h z hz hy => by
  have b1 := an_bool h
  have b2 := an_bool b1.2
  obtain ⟨fl, fr', σ'⟩ := q
  cases isNext_of b1.1
  exact ⟨fr', σ', e, any_of b2.1 fun v hv q => SV.eqb_of q ▸ hv, b2.2, hy ▸ hz⟩) (bodyOK rc a b) rfl
theorem riter_at {i j : Int} (K : Lk X N T A Vw cs own H s m [c0, c1, a] [.riter i j]) : An (own a = .ex 2) (s.heap.get? a = some (riterObj i j)) := by
  cases K.3 2 (.riter i j) rfl with | mk ow o e d => cases d; exact ⟨ow, e⟩
theorem Raw.chgF (R : Raw X N T A Vw cs own H s m) (sz : H.objs.size ≤ X.L) {x : Addr} (hk : ∀ b o, s.heap.get? b = some o → b ≠ x → h'.get? b = some o) (ox : own x = .fr ∨ ∃ j, own x = .ex j) (hx : H.get? x = none) (ns : h'.Ns X.L m') (ex : ∃ o, h'.get? x = some o ∧ NoRec o) : Raw X N T A Vw cs own H { s with heap := h', toks := tk } m' := by
  have nn : own x ≠ .non := fun q => ox.elim (fun z => nomatch q.symm.trans z) fun ⟨j, z⟩ => nomatch q.symm.trans z
  have hn : ∀ {b o}, H.get? b = some o → b ≠ x := fun {b o} e q => by rw [q, hx] at e; cases e
  refine R.chg hk (fun b o e _ => e) (fun b o e => hk b o (R.3 b o e) (hn e)) ?_ (fun z => nn (R.13 x z).1) (.inr ox) ns (let ⟨o, e, q⟩ := ex; ⟨o, e, fun _ => q⟩) fun o e => R.15 x o nn e
  cases q : X.base.get? x with
  | none => rfl
  | some o => exact absurd (R.11 x o q).2 nn
inductive LkI (X : Cx) (N T : Nat) (A : Nat → Addr) (own : Addr → Ow) (H : Heap) (c0 c1 a : Addr) (mm : Nat) (s : Shared) : Prop | mk (j : Nat) (Vw : Val) (cs : List Cli) (own' : Addr → Ow) (H' : Heap) (m : PySem.Str → Option Value) (e : mm + j = N) (K : Lk X N T A Vw cs own' H' s m [c0, c1, a] [.riter j N])
  (d : ∀ (i : Nat) (C : Cli), i < j → cs[i]? = some C → C.L = []) (kp : Kpt (X.outer.filterMap (·.frame)) own own' H H')
theorem Kpt.trans {fs : List Addr} {own₂ : Addr → Ow} {H₁ H₂ : Heap} (x : Kpt fs own own₁ H H₁) (y : Kpt fs own₁ own₂ H₁ H₂) : Kpt fs own own₂ H H₂ :=
  ⟨fun b o e q => let ⟨sl, g⟩ := x.2 b o e q; y.1 b _ g (x.1 b o e q), fun b o e q => let ⟨sl, g⟩ := x.2 b o e q; let ⟨sl', g'⟩ := y.2 b _ g (x.1 b o e q); ⟨sl', g'⟩, fun b o e q f => y.3 b o (x.3 b o e q f) (x.1 b o e q) f⟩
theorem Kpt.refl {fs : List Addr} : Kpt fs own own H H := ⟨fun _ _ _ q => q, fun _ o e _ => ⟨o.slots, e⟩, fun _ _ e _ _ => e⟩
theorem Lk.noL (K : Lk X N T A Vw cs own H s m ea x) {b : Addr} (h : X.L ≤ b) : H.get? b = none := Heap.get?_none_of_le (Nat.le_trans K.2 h)
theorem ExA.mv {j : Nat} {b z : Addr} {so : SObj} (x : ExA own h j b so) (hk : ∀ b o, h.get? b = some o → b ≠ z → h'.get? b = some o) (ne : own z ≠ .ex j) : ExA own h' j b so := by
  cases x with | mk ow o e d => exact ⟨ow, o, hk b o e fun q => ne (q ▸ ow), d⟩
theorem look_loop {cc : CK} {be : List Stmt} {pn : Pos} {Q : Flow → Shared → Prop} {E : Value → Shared → Prop} (LC : LkC X [c0, c1, a] N T) (hLa : X.L < a) (K : Lk X N T A Vw cs own H s m [c0, c1, a] [.riter 0 N]) (hk : X.env.scope.names.lookup (nm n_c) = some .local) (EO : ∀ p V, EnvOK cc (X.fo p V)) (hcc : cc.cmp = false)
    (den : ∀ p V, VOK V → (ckSs (ckS X.P 39) cc seenBody be).den (X.G.fo p V)) (k : ∀ s' Vw' cs' own' H' m', Lk X N T A Vw' cs' own' H' s' m' [c0, c1, a] [.riter N N] → (∀ (i : Nat) (C : Cli), cs'[i]? = some C → C.L = []) → Kpt (X.outer.filterMap (·.frame)) own own' H H' → Q .next s') :
    codeAny X.M X.A (.forLoop (.Name (nm n_c) pn) (.ref a) be [] X.env) (fun r s' => match r with | .ok f => Q f s' | .error e => cameBackBy X.M X.A X.env E e s') s := by
  refine codeAny_forLoop (LkI X N T A own H c0 c1 a) (fun mm s' I => ?_) N ⟨0, Vw, cs, own, H, m, rfl, K, fun _ _ q => absurd q (Nat.not_lt_zero _), .refl⟩
  cases I with
  | mk j Vw' cs' own' H' m' e K d kp =>
    have R := K.1
    have it := riter_at K
    have hloc : X.env.locals = X.L := R.1.17 R.6
    by_cases q : j < N
    · have hab : (j : Int) < (N : Int) := Int.ofNat_lt.mpr q
      have hit : IsRangeIter s'.heap a j ((N : Int) - j) 1 := by have e := it.2; unfold riterObj at e; rw [if_pos hab] at e; exact e
      obtain ⟨C, hc⟩ : ∃ C, cs'[j]? = some C := ⟨_, List.getElem?_eq_getElem (by rw [R.2.1]; exact q)⟩
      refine wpAny_pyNext_range_item hit (Int.sub_pos_of_lt hab) fun h1 hit1 sb1 => ?_
      dsimp only
      have hk1 : ∀ b o, s'.heap.get? b = some o → b ≠ a → h1.get? b = some o := fun b o e n => (sb1.2 b n).trans e
      have naL : a ≠ X.L := Nat.ne_of_gt hLa
      have e1 : h1.get? a = some (riterObj ((j : Int) + 1) N) := by
        refine (show h1.get? a = some _ from hit1).trans ?_
        unfold riterObj
        rw [show (if (j : Int) + 1 < (N : Int) then (N : Int) - ((j : Int) + 1) else 0) = (N : Int) - j - 1 by split <;> omega]
      have ns1 : h1.Ns X.L m' := ns_at R.4 fun o e => hk1 _ o e naL.symm
      have R1 := R.chgF (tk := s'.toks + 1) (m' := m') K.2 hk1 (.inr ⟨2, it.1⟩) (K.noL (Nat.le_of_lt hLa)) ns1 ⟨_, e1, (ExD.it _ _).nr⟩
      refine wpAny_assign_Name (wpAny_storeName_local hk (hloc.symm ▸ ns1) (fun h2 ns2 sb2 => ?_) (by rw [R.1.2]; rfl))
      rw [hloc] at ns2 sb2
      have hk2 : ∀ b o, h1.get? b = some o → b ≠ X.L → h2.get? b = some o := fun b o e n => (sb2.2 b n).trans e
      obtain ⟨oL, gL'⟩ := ns_ex ns2
      have R2 := R1.chgF (tk := s'.toks + 1 + 1) (m' := fun x => if x = nm n_c then some (.int j s'.toks) else m' x) K.2 hk2 (.inl R.5) (K.noL (Nat.le_refl _)) ns2 ⟨oL, gL', ns_nr ns2 gL'⟩
      have nw : (if nm n_world = nm n_c then some (Value.int j s'.toks) else m' (nm n_world)) = some (.ref (A 0)) := (if_neg fun z => absurd (nm_inj z) (by decide)).trans K.4
      have K2 : Lk X N T A Vw' cs' own' H' _ _ [c0, c1, a] [.riter ((j : Int) + 1) N] := ⟨R2, K.2, exO3 (P := fun j so => ExA own' h2 j ([c0, c1, a].getD j 0) so) (((K.3 0 _ rfl).mv hk1 fun z => nomatch it.1.symm.trans z).mv hk2 fun z => nomatch R.5.symm.trans z) (((K.3 1 _ rfl).mv hk1 fun z => nomatch it.1.symm.trans z).mv hk2 fun z => nomatch R.5.symm.trans z) ⟨it.1, _, hk2 _ _ e1 naL, .it _ _⟩, nw⟩
      have B := R.2.6 j C hc
      cases bodyR B.1 ((j : Int) + 1) N with
      | mk fr' σ' eb w l i =>
        have rw_ : ∀ r ∈ rowsS, RW (mixV Vw' C.V 0 j N) C.ρ C.n r := rowsS_ok (Nat.lt_of_lt_of_le (List.getElem?_eq_some_iff.mp hc).1 (by rw [R.2.1]; have := LC.5; omega)) B.8 B.9 (Cli.nle B.1).1
        have hn : ∀ z v, Mine.lk [(n_world, SV.ref 0), (n_c, SV.sint 1)] z = some v → An (SV.lt C.n v) (∃ y, (fun x => if x = nm n_c then some (Value.int j s'.toks) else m' x) (nm z) = some y ∧ Den (mixV Vw' C.V 0 j N) C.ρ v y) := fun z v hz => lk_all (p := fun z v => An (SV.lt C.n v) (∃ y, (fun x => if x = nm n_c then some (Value.int j s'.toks) else m' x) (nm z) = some y ∧ Den (mixV Vw' C.V 0 j N) C.ρ v y)) (all_cons (a := (n_world, SV.ref 0)) ⟨Nat.lt_trans (by decide) (Cli.nle B.1).1, _, nw, congrArg Value.ref (B.6 0 (by decide)).symm⟩ (all_cons (a := (n_c, SV.sint 1)) ⟨trivial, _, if_pos rfl, s'.toks, rfl⟩ all_nil)) hz
        have XT' := fun p => run_body (X' := X.fo p (mixV Vw' C.V 0 j N)) (fun o => LC.1.1 _ (LC.vok R hc) o) LC.2 R.7 LC.3 (EO p _) hcc LC.9 (den p _ (LC.vok R hc)) eb
        refine look_run (o := fun X' => fO X' σ' .next) (rs := rowsS) (loc := [(n_world, .ref 0), (n_c, .sint 1)]) (y := [.riter ((j : Int) + 1) N]) LC K2 hc rw_ hn XT' l (exO3 (P := fun j so => ExS so σ'.objs[C.n + j]?) (landI_ex l).1 (landI_ex l).2 (i ▸ .it _ _ rfl)) (Nat.le_refl _) fun p w2 V' ρ' own2 R3 kp3 E3 w3 S2 => ?_
        intro f ef
        cases ef
        exact ⟨mm - 1, by omega, j + 1, V', _, own2, _, w2.m, by omega, ⟨R3, cut_size, E3, w3 w⟩, fun i D hi hD => set_at' hD (fun q1 q2 => q2 ▸ rfl) fun ne hD => d i D (by omega) hD, kp.trans kp3⟩
    · have hab : ¬ (j : Int) < (N : Int) := fun z => q (Int.ofNat_lt.mp z)
      have ej : j = N := by omega
      subst ej
      have hit : IsRangeIter s'.heap a j 0 1 := by have e := it.2; unfold riterObj at e; rw [if_neg hab] at e; exact e
      refine pyNext_range_end (.inl (R.1.18 R.7)) hit (Int.le_refl _) fun h1 hk1 => ?_
      dsimp only
      refine wpAny_execs_nil (k _ Vw' cs' own' H' m' ⟨R.grow (tk := s'.toks) hk1, K.2, fun j' so hj => ?_, K.4⟩ (fun i D hD => d i D (by have := (List.getElem?_eq_some_iff.mp hD).1; rw [R.2.1] at this; exact this) hD) kp)
      cases K.3 j' so hj with | mk ow o e d => exact ⟨ow, o, hk1 _ o e, d⟩
end
section
variable {N T T' n c : Nat} {A A' : Nat → Addr} {Vw Vw' : Val} {h h' h₁ H H' : Heap} {s s' : Shared} {m m' : PySem.Str → Option Value} {p : Obj} {cs cs' : List Cli} {own own' own₁ : Addr → Ow} {C : Cli} {env' : Env} {tk L' : Nat} {num : Int} {ea : List Addr} {eo x : List SObj} {L : LL} {rs : List Row} {loc : List (Nat × SV)} {y : SObj} {c0 c1 a : Addr}
theorem fun_seen : ∃ F, findFun 1070 prog.funs = some F ∧ F.params = [n_world] ∧ F.cells = [n_client, n_own] ∧ F.dflts = [] ∧ F.body = .for_ (.tn n_c false) seenIt seenBody :: seenRet := ⟨_, rfl, rfl, rfl, rfl, rfl⟩
inductive ItR (N : Nat) (m : Mu) (L : LL) : Prop | mk (i : Nat) (σ' : SS) (e : (run prog FU).ev seenIt none ⟨[(n_world, .ref 0)], seenCel (objsOf m L).length⟩ (lookS m L [] [.llen 0 (.int N)]) = some (.ok (.ref i), σ')) (r : σ'.objs[i]? = some (.rng 0 N)) (l : landI m L (objsOf m L).length σ'.objs = true)
theorem itR {m : Mu} (h : itB N m L = true) : ItR N m L := any_of h fun q e h => by
  obtain ⟨r, σ'⟩ := q
  cases r with
  | exc => cases h
  | ok v => cases v with
    | ref i =>
      have b := an_bool h
      refine any_of b.1 fun o ho q => ⟨i, σ', e, ?_, b.2⟩
      cases o with
      | rng x y =>
        have b := an_bool q
        cases (of_decide_eq_true b.1 : x = 0)
        cases (of_decide_eq_true b.2 : y = (N : Int))
        exact ho
      | _ => cases q
    | _ => cases h
inductive RetR (a b : Int) (m : Mu) : Prop | mk (fr' : SFr) (σ' : SS) (e : execs (run prog FU) none seenRet ⟨[(n_world, .ref 0)], seenCel (objsOf m []).length⟩ (lookS m [] [.riter a b] rowsS) = some (.ret (.bool true), fr', σ')) (l : landI m [] (objsOf m []).length σ'.objs = true)
theorem retR {m : Mu} {a b : Int} (h : retB a b m = true) : RetR a b m := any_of h fun q e h => by
  have b := an_bool h
  obtain ⟨fl, fr', σ'⟩ := q
  cases isTrueV_of b.1
  exact ⟨fr', σ', e, b.2⟩
inductive ForSh (bd : List Stmt) : Prop | mk (pn : Pos) (ie : Expr) (be : List Stmt) (p : Pos) (rest : List Stmt) (e : bd = .For (.Name (nm n_c) pn) ie be [] p :: rest)
theorem for_sh {G : Gl} {P : PT} {cc : CK} {it : IE} {b r : List IS} {bd : List Stmt} (h : (ckSs (ckS P 40) cc (.for_ (.tn n_c false) it b :: r) bd).den G) : ForSh bd := ckSs_cons (C := ForSh) h fun x xs h1 _ => sgE (C := fun x => ForSh (x :: xs)) h1 fun h => by
  show ForSh (.For (sw x).y (sw x).z (sw x).a (sw x).b (sw x).p :: xs)
  rw [emp_of h.1]
  refine tgE (C := fun y => ForSh (.For y (sw x).z (sw x).a [] (sw x).p :: xs)) h.2 fun h => ?_
  show ForSh (.For (.Name (vw (sw x).y).s (vw (sw x).y).p) (sw x).z (sw x).a [] (sw x).p :: xs)
  have q : nm n_c = (vw (sw x).y).s := isNm_of h.1.2.1
  rw [← q]
  exact ⟨_, _, _, _, _, rfl⟩
theorem for_den {G : Gl} {P : PT} {cc : CK} {it : IE} {b r : List IS} {pn p : Pos} {ie : Expr} {be rest : List Stmt} (h : (ckSs (ckS P 40) cc (.for_ (.tn n_c false) it b :: r) (.For (.Name (nm n_c) pn) ie be [] p :: rest)).den G) : An (cc.sc.names.lookup (nm n_c) = some .local) (An ((ckE P 40 cc it ie).den G) (An ((ckSs (ckS P 39) cc b be).den G) ((ckSs (ckS P 40) cc r rest).den G))) :=
  have h1 := h.1.2.2.2
  ⟨isKd_of h1.1.2.2.1, h1.2.1, h1.2.2, h.2⟩
theorem ll_row (I : Inv X.G N T A Vw cs own H) (hc : cs[c]? = some C) : ∀ r ∈ [Row.llen 0 (.int N)], RW (mixV Vw C.V 0 c N) C.ρ C.n r := all_cons ⟨(congrArg (fun n : Nat => some (n : Int)) I.4).symm, trivial⟩ all_nil
theorem world_hn {V : Val} (K : Lk X N T A Vw cs own H s m ea x) (hc : cs[c]? = some C) : ∀ z v, Mine.lk [(n_world, SV.ref 0)] z = some v → An (SV.lt C.n v) (∃ y, m (nm z) = some y ∧ Den V C.ρ v y) := fun z v hz =>
  have B := K.1.2.6 c C hc
  lk_all (p := fun z v => An (SV.lt C.n v) (∃ y, m (nm z) = some y ∧ Den V C.ρ v y)) (all_cons (a := (n_world, SV.ref 0)) ⟨Nat.lt_trans (by decide) (Cli.nle B.1).1, _, K.4, congrArg Value.ref (B.6 0 (by decide)).symm⟩ all_nil) hz
theorem run_ev {X' : Cx} {cc : CK} {e : IE} {z : Expr} {r : Rs} (hy : ∀ o, Hyp (X'.G.withPin o) X'.P) (hP : X'.P = prog) (hh : X'.hd = none) (hn : fu FU ≤ X'.n) (EO : EnvOK cc X') (den : (ckE X'.P 40 cc e z).den X'.G) (h : (run prog FU).ev e none fr σ = some (r, σ')) : VT X' fr σ (eval z X'.env) r σ' :=
  (allCs FU X' hy hn).1 40 cc EO e z fr σ den (r, σ') (by rw [hP, hh]; exact h)
theorem Kpt.mark {fs : List Addr} {j : Nat} (h : H.get? a = none) : Kpt fs own (ownM own a j) H H := ⟨fun b o e q => (if_neg fun z => by rw [z, h] at e; cases e).trans q, fun _ o e _ => ⟨o.slots, e⟩, fun _ _ e _ _ => e⟩
theorem ExA.grow {j : Nat} {b : Addr} {so : SObj} (x : ExA own h j b so) (hk : ∀ b o, h.get? b = some o → h'.get? b = some o) (ha : own a = .non) : ExA (ownM own a 2) h' j b so := by
  cases x with | mk ow o e d => exact ⟨ownM_ne ow (nomatch ·) ha, o, hk b o e, d⟩
theorem look_stmts {cc : CK} {pn p : Pos} {ie : Expr} {be rest : List Stmt} {Q : Flow → Shared → Prop} {E : Value → Shared → Prop} (LC : ∀ z, LkC X (c0 :: c1 :: z) N T) (K : Lk X N T A Vw cs own H s m [c0, c1] []) (EO : ∀ p V, EnvOK cc (X.fo p V)) (hcc : cc.cmp = false) (sc : X.env.scope = cc.sc)
    (den : ∀ po V, VOK V → (ckSs (ckS X.P 40) cc (.for_ (.tn n_c false) seenIt seenBody :: seenRet) (.For (.Name (nm n_c) pn) ie be [] p :: rest)).den (X.G.fo po V))
    (k : ∀ s' Vw' cs' own' H' m', Raw X N T A Vw' cs' own' H' s' m' → (∀ (i : Nat) (C : Cli), cs'[i]? = some C → C.L = []) → Kpt (X.outer.filterMap (·.frame)) own own' H H' → Q (.ret (.bool true)) s') : wpAny X.M X.A (PySem.execs (.For (.Name (nm n_c) pn) ie be [] p :: rest) X.env) Q E s := by
  have R := K.1
  have LC2 := LC []
  have c0' : ∀ {cs : List Cli}, cs.length = N → ∃ C, cs[0]? = some C := fun {cs} h => ⟨_, List.getElem?_eq_getElem (by rw [h]; have := LC2.4; omega)⟩
  obtain ⟨C, hc⟩ := c0' R.2.1
  have B := R.2.6 0 C hc
  have bb := an_bool (lookOK B.1)
  have hN : itB N C.m C.L = true := by
    have h2 := LC2.4
    have h3 := LC2.5
    rcases (by omega : N = 2 ∨ N = 3) with q | q
    · rw [q]; exact bb.1
    · rw [q]; exact bb.2
  have fd := fun po V hV => for_den (den po V hV)
  have fd0 := fd X.G.pin _ (LC2.vok (num := 0) R hc)
  cases itR hN with
  | mk i σ' ei hr hl =>
    have XT' := fun po => run_ev (X' := X.fo po (mixV Vw C.V 0 0 N)) (fun o => LC2.1.1 _ (LC2.vok R hc) o) LC2.2 R.7 LC2.3 (EO po _) (fd po _ (LC2.vok R hc)).2.1 ei
    refine wpAny_execs_cons (wpAny_For (look_run (o := fun X' => rO X' σ' (.ok (.ref i))) (rs := [.llen 0 (.int N)]) (loc := [(n_world, .ref 0)]) (y := []) LC2 K hc (ll_row R.2 hc) (world_hn K hc) XT' hl (exO2 (P := fun j so => ExS so σ'.objs[C.n + j]?) (landI_ex hl).1 (landI_ex hl).2) (Nat.le_refl _) fun po w2 V' ρ' own2 R2 kp2 E2 w2w S2 v dv => ?_) (fold_no (ck_pl fd0.2.1).1))
    cases dv.1
    refine S2.at_ hr fun o eo D => ?_
    cases D with
    | mk b1 t u v =>
      refine wpAny_pyIter_range eo (small_one (Int.le_trans (by decide) b1.1) (Int.lt_of_le_of_lt b1.2.1 (by decide)) (Int.le_trans (by decide) b1.2.2.1) (Int.lt_of_le_of_lt b1.2.2.2 (by decide))) ?_
      have e2 : ({ cls := .type "range_iterator", data := .fields #[rawInt 0, rawInt (Builtin.Range.rangeSize 0 N 1), rawInt 1] } : Obj) = riterObj 0 N := by rw [range_eq]; rfl
      rw [e2]
      have hg : ∀ b o, w2.s.heap.get? b = some o → (w2.s.heap.push (riterObj 0 N)).get? b = some o := fun b o e => Heap.get?_push_of_some _ e
      have ha : own2 w2.s.heap.objs.size = .non := by
        cases q : own2 w2.s.heap.objs.size with
        | non => rfl
        | _ => obtain ⟨o, e⟩ := R2.14 _ fun z => nomatch q.symm.trans z; exact nomatch none_size.symm.trans e
      have hH : (cut w2.s.heap X.L).get? w2.s.heap.objs.size = none := by
        cases q : (cut w2.s.heap X.L).get? w2.s.heap.objs.size with
        | none => rfl
        | some o => exact nomatch none_size.symm.trans (cut_of q).1
      have ea := Heap.get?_push_size w2.s.heap (o := riterObj 0 N) rfl
      have R3 := (R2.grow (tk := w2.s.toks) hg).mark (j := 2) ha hH ⟨_, ea, (ExD.it _ _).nr⟩
      have K3 : Lk X N T A V' _ (ownM own2 w2.s.heap.objs.size 2) _ _ w2.m [c0, c1, w2.s.heap.objs.size] [.riter 0 N] := ⟨R3, cut_size, exO3 (P := fun j so => ExA (ownM own2 w2.s.heap.objs.size 2) (w2.s.heap.push (riterObj 0 N)) j ([c0, c1, w2.s.heap.objs.size].getD j 0) so) ((E2 0 _ rfl).grow hg ha) ((E2 1 _ rfl).grow hg ha) ⟨if_pos rfl, _, ea, .it _ _⟩, w2w rfl⟩
      refine look_loop (LC [_]) (let ⟨oL, gL⟩ := ns_ex R2.4; Heap.lt_size gL) K3 (sc ▸ fd0.1) EO hcc (fun po V hV => (fd po V hV).2.2.1) fun s4 Vw4 cs4 own4 H4 m4 K4 d4 kp4 => ?_
      show wpAny X.M X.A (PySem.execs rest X.env) Q E s4
      have R4 := K4.1
      obtain ⟨C4, hc4⟩ := c0' R4.2.1
      have hL := d4 0 C4 hc4
      have B4 := R4.2.6 0 C4 hc4
      have rc := B4.1
      rw [hL] at rc
      cases retR (retOK rc N N) with
      | mk fr' σ4 e4 l4 =>
        have XT4 := fun po => run_body (X' := X.fo po (mixV Vw4 C4.V 0 0 N)) (fun o => LC2.1.1 _ ((LC [w2.s.heap.objs.size]).vok R4 hc4) o) LC2.2 R4.7 LC2.3 (EO po _) hcc LC2.9 (fd po _ ((LC [w2.s.heap.objs.size]).vok R4 hc4)).2.2.2 e4
        rw [← hL] at l4 XT4
        refine look_run (o := fun X' => fO X' σ4 (.ret (.bool true))) (rs := rowsS) (loc := [(n_world, .ref 0)]) (y := []) (LC [_]) K4 hc4 (rowsS_ok (by decide) B4.8 B4.9 (Cli.nle B4.1).1) (world_hn K4 hc4) XT4 l4 (exO2 (P := fun j so => ExS so σ4.objs[C4.n + j]?) (landI_ex l4).1 (landI_ex l4).2) (Nat.zero_le _) fun po w5 V5 ρ5 own5 R5 kp5 _ _ S5 f hf => ?_
        obtain ⟨y, rfl, dv⟩ := hf
        cases dv.1
        exact k w5.s _ _ _ _ _ R5 (fun i D hD => set_at' hD (fun _ q => q ▸ hL) fun _ hD => d4 i D hD) (((kp2.trans (.mark hH)).trans kp4).trans kp5)
end
section
variable {N T T' n c : Nat} {A A' : Nat → Addr} {Vw Vw' : Val} {h h' h₁ H H' : Heap} {s s' : Shared} {m m' : PySem.Str → Option Value} {p : Obj} {cs cs' : List Cli} {own own' own₁ : Addr → Ow} {C : Cli} {env' : Env} {tk L' : Nat} {num : Int} {ea : List Addr} {eo x : List SObj} {L : LL} {rs : List Row} {loc : List (Nat × SV)} {y : SObj} {c0 c1 a : Addr}
theorem look_call (LW : Lw X.G X.P) (hP : X.P = prog) (hXn : fu FU + 1 ≤ X.n) (R : Raw X N T A Vw cs own s.heap s m) (hN : 2 ≤ N) (hN3 : N ≤ 3) (hT : T ≤ 38) {Q : Result → Shared → Prop}
    (k : ∀ s' Vw' cs' own', Raw X N T A Vw' cs' own' s'.heap s' m → (∀ (i : Nat) (C : Cli), cs'[i]? = some C → C.L = []) → Kpt (X.outer.filterMap (·.frame)) own own' s.heap s'.heap → Q (.ok (.ret (.bool true))) s') : codeAny X.M X.A (.call (.ref 1070) ⟨[.ref (A 0)], []⟩) Q s := by
  obtain ⟨F, hF, fp, fc, fd, fb⟩ := fun_seen
  obtain ⟨ea, D, FO⟩ := LW.2 1070 F (hP ▸ hF)
  rw [show (1070 : Addr) = F.addr from ea.symm]
  refine callR (p := X.G.pin) (V := Vw) (ρ := A) R (Nat.le_trans (Nat.le_add_left ..) hXn) (FO _ R.2.2 X.G.pin) (args := [.ref 0]) (loc := [(n_world, .ref 0)]) (by rw [fp, fd]; with_unfolding_all rfl) (by rw [fp]; with_unfolding_all rfl) (.cons rfl .nil) fun env' h₁ tk mm EI hk R1 hnm hcel hdis => ?_
  rw [fc] at hnm hcel hdis
  obtain ⟨c0, C0⟩ := hcel n_client (.head _)
  obtain ⟨c1, C1⟩ := hcel n_own (.tail _ (.head _))
  have ne : c1 ≠ c0 := fun q => absurd (hdis n_client (.head _) n_own (.tail _ (.head _)) (C0.1.trans (q ▸ C1.1.symm))) (by decide)
  have new : ∀ {c a}, CelR env' h₁ s.heap.objs.size c a → An (ownW own s.heap.objs.size a = .non) (An (s.heap.get? a = none) (∃ o, h₁.get? a = some o ∧ ExD (.cell none) o)) := fun {c a} C => by
    have hn : s.heap.get? a = none := Heap.get?_none_of_le (Nat.le_of_lt C.2)
    refine ⟨ownW_non (Nat.ne_of_gt C.2) ?_, hn, let ⟨x, o, e, d⟩ := C.3; ⟨o, e, .cell o x d⟩⟩
    cases q : own a with
    | non => rfl
    | _ => obtain ⟨o, e⟩ := R.14 a fun z => nomatch q.symm.trans z; exact nomatch hn.symm.trans e
  have n0 := new C0
  have n1 := new C1
  have R2 := R1.mark (j := 0) n0.1 n0.2.1 (let ⟨o, e, d⟩ := n0.2.2; ⟨o, e, d.nr⟩)
  have R3 := R2.mark (x := c1) (j := 1) ((if_neg ne).trans n1.1) n1.2.1 (let ⟨o, e, d⟩ := n1.2.2; ⟨o, e, d.nr⟩)
  obtain ⟨y, ey, dy⟩ := hnm n_world (.ref 0) rfl (by decide)
  have K : Lk (X.inn env' s.heap.objs.size) N T A Vw cs _ _ _ mm [c0, c1] [] := ⟨R3, Nat.le_refl _, exO2 (P := fun j so => ExA (ownM (ownM (ownW own s.heap.objs.size) c0 0) c1 1) h₁ j ([c0, c1].getD j 0) so) (let ⟨o, e, d⟩ := n0.2.2; ⟨(if_neg ne.symm).trans (if_pos rfl), o, e, d⟩) (let ⟨o, e, d⟩ := n1.2.2; ⟨if_pos rfl, o, e, d⟩), ey.trans (congrArg some (show y = .ref (A 0) from dy))⟩
  have den := fun po V hV => fb ▸ (FO V hV po).12
  cases for_sh (den X.G.pin Vw R.2.2) with
  | mk pn ie be p rest e =>
    unfold BodyW
    rw [e] at den ⊢
    refine look_stmts (X := X.inn env' s.heap.objs.size) (fun z => ⟨LW, hP, Nat.le_sub_one_of_lt hXn, hN, hN3, hT, C0.1, C1.1, rfl⟩) K (fun po V => EI.okF fun a => codeA_of) rfl EI.1 den fun s' Vw' cs' own' H' m' R4 nil K4 => ?_
    have fe : (X.fenv :: X.outer).filterMap (·.frame) = X.L :: X.outer.filterMap (·.frame) := by rw [List.filterMap_cons, R.1.11]
    have KK := ((Kpt.mark (fs := (X.fenv :: X.outer).filterMap (·.frame)) (j := 0) n0.2.1).trans (Kpt.mark (j := 1) n1.2.1)).trans K4
    exact k _ _ _ _ (R.out rfl R4 KK) nil (Kpt.out (fe ▸ KK) R4.3 (fun e => Nat.ne_of_lt (Heap.lt_size e)) R.5)
end
section
variable {N T T' n c : Nat} {A A' : Nat → Addr} {Vw Vw' : Val} {h h' h₁ H H' : Heap} {s s' : Shared} {m m' : PySem.Str → Option Value} {p : Obj} {cs cs' : List Cli} {own own' own₁ : Addr → Ow} {C : Cli} {env' : Env} {num : Int} {a : Addr} {Q : Value → Shared → Prop} {E : Value → Shared → Prop}
theorem glob_fn (LW : Lw X.G X.P) (R : Raw X N T A Vw cs own s.heap s m) {x a : Nat} {p : Pos} (hk : X.env.scope.names.lookup (nm x) = some .globalImplicit) (hx : lk X.P.globs x = some (.top a)) (h : Q (.ref a) s) : wpAny X.M X.A (eval (.Name (nm x) p) X.env) Q E s := by
  have b : X.base.StaysIn s.heap := fun b o e => R.3 b o (R.11 b o e).1
  cases (LW.1 Vw R.2.2 X.G.pin).1.1 x _ hx with
  | mk _ y d hy =>
    cases d fun _ => 0
    refine Name_function_global R.1.2 hk ?_ (debug_ne x)
    have g := R.1.3 ▸ R.1.6.keeps b
    exact hy.elim (fun q => loadGlobal_global g q h) fun q => loadGlobal_builtin g q.1 (R.1.4 ▸ R.1.7.keeps b) q.2 h
theorem name_at (R : Raw X N T A Vw cs own H s m) {x : Nat} {p : Pos} {v : Value} (hk : X.env.scope.names.lookup (nm x) = some .local) (hv : m (nm x) = some v) (h : Q v s) : wpAny X.M X.A (eval (.Name (nm x) p) X.env) Q E s :=
  wpAny_Name (wpAny_loadName_local R.1.2 hk ((R.1.17 R.6).symm ▸ R.4) hv h) (debug_ne x)
noncomputable def plF : CK → IE → Expr → Fo := fun _ _ x => .wh (plB x) .tt
noncomputable def ck0 : CK := ⟨sc0, "", none, false⟩
theorem law_app (LW : Lw X.G X.P) (R : Raw X N T A Vw cs own s.heap s m) {x a : Nat} {xp pos : Pos} {es : List Expr} {l : List IE} (hk : X.env.scope.names.lookup (nm x) = some .globalImplicit) (hx : lk X.P.globs x = some (.top a)) (hF : (findFun a X.P.funs).isSome = true) (ms : (ckEs plF ck0 l es).den X.G)
    (h : wpAny X.M X.A (spliced (backTo pos (starEach es X.env))) (fun vs s' => s' = s ∧ codeAny X.M X.A (.call (.ref a) ⟨vs, []⟩) (fun r s₁ => match r with | .ok (.ret v) => Q v s₁ | .ok _ => False | .error e => E e s₁) s) E s) : wpAny X.M X.A (eval (.Call (.Name (nm x) xp) es [] pos) X.env) Q E s := by
  obtain ⟨F, hF⟩ := Option.isSome_iff_exists.mp hF
  obtain ⟨ea, D, FO⟩ := LW.2 a F hF
  have b : X.base.StaysIn s.heap := fun b o e => R.3 b o (R.11 b o e).1
  have hp : ∀ {e z}, (plF ck0 e z).den X.G → plB z = true := fun h => h.1
  refine wpAny_Call_ofName (glob_fn LW R hk hx (callWith_of (P := KpOK X.M (.ref a)) (by rw [plain_each hp ms]; rfl) (fun _ x => x) (evalArgs_pos hp ms (wpAny_mono h (fun vs s' q => ?_) fun _ _ x => x))))
  obtain ⟨rfl, q⟩ := q
  exact ⟨ea ▸ kp_fn (R.1.5.keeps b _ _ (FO Vw R.2.2 X.G.pin).1) rfl, wpAny_call q⟩
end
section
variable {N T T' n c : Nat} {A A' : Nat → Addr} {Vw Vw' : Val} {h h' h₁ H H' : Heap} {s s' : Shared} {m m' : PySem.Str → Option Value} {p : Obj} {cs cs' : List Cli} {own own' own₁ : Addr → Ow} {C : Cli} {env' : Env} {num : Int}
inductive LwC (X : Cx) (N : Nat) : Prop | mk (LW : Lw X.G X.P) (hP : X.P = prog) (hn : fu FU + 1 ≤ X.n) (n2 : 2 ≤ N) (n3 : N ≤ 3) (k1 : X.env.scope.names.lookup (nm n_world) = some .local) (k2 : X.env.scope.names.lookup (nm n_number) = some .local) (k3 : X.env.scope.names.lookup (nm n__law_one) = some .globalImplicit) (k4 : X.env.scope.names.lookup (nm n__law_is_seen) = some .globalImplicit) (ou : X.outer = [])
theorem law_globs : (lk prog.globs n__law_one = some (.top 1058) ∧ (findFun 1058 prog.funs).isSome = true) ∧ lk prog.globs n__law_is_seen = some (.top 1070) ∧ (findFun 1070 prog.funs).isSome = true := ⟨⟨rfl, rfl⟩, rfl, rfl⟩
theorem law_body (LC : LwC X N) (R : Raw X N T A Vw cs own s.heap s m) (nil : ∀ (i : Nat) (C : Cli), cs[i]? = some C → C.L = []) (hT : T ≤ 37) (hw : m (nm n_world) = some (.ref (A 0))) {t : Tok} (hnum : m (nm n_number) = some (.int num t)) {p1 p2 p3 p4 p5 p6 p7 p8 p9 p10 p11 : Pos} {r : List Stmt} {Q : Flow → Shared → Prop} {E : Value → Shared → Prop}
    (k : ∀ s' Vw' cs' own', Raw X N (T + 1) A Vw' cs' own' s'.heap s' m → (∀ (i : Nat) (C : Cli), cs'[i]? = some C → C.L = []) → Kpt [] own own' s.heap s'.heap → Q .next s') :
    wpAny X.M X.A (PySem.execs [.If (.BoolOp .Or [.UnaryOp .Not (.Call (.Name (nm n__law_one) p1) [.Name (nm n_world) p2, .Name (nm n_number) p3] [] p4) p5, .UnaryOp .Not (.Call (.Name (nm n__law_is_seen) p6) [.Name (nm n_world) p7] [] p8) p9] p10) r [] p11] X.env) Q E s := by
  have I := R.2
  have n2 := LC.4
  have hmod := fmod_rg num (k := (N : Int)) (by omega)
  obtain ⟨c, hcn⟩ := Int.eq_ofNat_of_zero_le hmod.1
  obtain ⟨C, hc⟩ : ∃ C, cs[c]? = some C := ⟨_, List.getElem?_eq_getElem (by rw [I.1]; omega)⟩
  obtain ⟨⟨g1, f1⟩, g2, f2⟩ := law_globs
  have P := LC.2
  refine wpAny_execs_cons (wpAny_If (wpAny_isTrue_BoolOp (wpAny_allTrue_Or_cons (wpAny_isTrue_Not (wpAny_isTrue_value (law_app (l := [.bad, .bad]) LC.1 R LC.8 (P ▸ g1) (P ▸ f1) ⟨⟨rfl, trivial⟩, ⟨rfl, trivial⟩, rfl, trivial⟩ (spliced_more (name_at R LC.6 hw (spliced_more (name_at R LC.7 hnum (spliced_none ⟨rfl, ?_⟩)) rfl)) rfl)) rfl)))))
  refine turn_call LC.1 P LC.3 R hc (nil c C hc) n2 LC.5 (Nat.le_succ_of_le hT) hcn fun s1 Vw1 C1 own1 R1 K1 => ?_
  refine wpAny_truthy_bool ?_
  rw [if_neg (by decide)]
  refine wpAny_allTrue_Or_cons (wpAny_isTrue_Not (wpAny_isTrue_value (law_app (l := [.bad]) LC.1 R1 LC.9 (P ▸ g2) (P ▸ f2) ⟨⟨rfl, trivial⟩, rfl, trivial⟩ (spliced_more (name_at R1 LC.6 hw (spliced_none ⟨rfl, ?_⟩)) rfl)) rfl))
  refine look_call LC.1 P LC.3 R1 n2 LC.5 (Nat.succ_le_succ hT) fun s2 Vw2 cs2 own2 R2 nil2 K2 => ?_
  refine wpAny_truthy_bool ?_
  rw [if_neg (by decide)]
  have KK := K1.trans K2
  rw [LC.10] at KK
  exact wpAny_allTrue_Or_nil (wpAny_execs_nil (wpAny_execs_nil (k s2 Vw2 cs2 own2 R2 nil2 KK)))
inductive LwI (X : Cx) (N : Nat) (A : Nat → Addr) (it l : Addr) (vs : List Value) (nl : Nat) (mm : Nat) (s : Shared) : Prop | mk (i : Nat) (Vw : Val) (cs : List Cli) (own : Addr → Ow) (m : PySem.Str → Option Value) (e : mm + i = vs.length) (R : Raw X N i A Vw cs own s.heap s m) (nil : ∀ (i : Nat) (C : Cli), cs[i]? = some C → C.L = []) (w : m (nm n_world) = some (.ref (A 0)))
  (oi : own it = .non) (ol : own l = .non) (hi : s.heap.IsListIter it l i) (hl : s.heap.get? l = some (listOf vs.toArray nl))
theorem iter_nr {it l : Addr} {i : Nat} (x : h.IsListIter it l i) : ∀ o, h.get? it = some o → NoRec o := fun o e => by
  obtain ⟨o', e', _, hd⟩ := x
  cases e'.symm.trans e
  exact fun vs q t d z => by rw [hd] at d; cases d; cases z
theorem law_loop (LC : LwC X N) {it l : Addr} {vs : List Value} {nl : Nat} (b1 : X.base.get? it = none) (ne : it ≠ l ∧ it ≠ X.L ∧ l ≠ X.L) (hvs : ∀ v ∈ vs, ∃ (x : Int) (t : Tok), v = .int x t) (hlen : vs.length ≤ 37) {p p1 p2 p3 p4 p5 p6 p7 p8 p9 p10 p11 : Pos} {r : List Stmt} {Q : Result → Shared → Prop}
    (I0 : LwI X N A it l vs nl vs.length s) (k : ∀ s' T Vw cs own m, Raw X N T A Vw cs own s'.heap s' m → Q (.ok .next) s') :
    codeAny X.M X.A (.forLoop (.Name (nm n_number) p) (.ref it) [.If (.BoolOp .Or [.UnaryOp .Not (.Call (.Name (nm n__law_one) p1) [.Name (nm n_world) p2, .Name (nm n_number) p3] [] p4) p5, .UnaryOp .Not (.Call (.Name (nm n__law_is_seen) p6) [.Name (nm n_world) p7] [] p8) p9] p10) r [] p11] [] X.env) Q s := by
  refine codeAny_forLoop (LwI X N A it l vs nl) (fun mm s' I => ?_) vs.length I0
  cases I with
  | mk i Vw cs own m hmm R nil hw oi ol hi hl =>
    have hloc : X.env.locals = X.L := R.1.17 R.6
    have hL : s'.heap.IsList l vs.toArray := ⟨_, hl, rfl, _, rfl⟩
    have ouN : ∀ z, z ∉ X.outer.filterMap (·.frame) := fun z => by rw [LC.10]; exact List.not_mem_nil
    have bL : X.base.get? X.L = none := by
      cases q : X.base.get? X.L with
      | none => rfl
      | some o => exact nomatch (R.11 _ o q).2.symm.trans R.5
    by_cases q : i < vs.length
    · obtain ⟨x, t, hx⟩ := hvs vs[i] (List.getElem_mem q)
      refine wpAny_pyNext_list_item hi hL (x := vs[i]) (by rw [List.getElem?_toArray]; exact List.getElem?_eq_getElem q) fun h1 hit1 sb1 => ?_
      dsimp only
      have hk1 : ∀ b o, s'.heap.get? b = some o → b ≠ it → h1.get? b = some o := fun b o e n => (sb1.2 b n).trans e
      have ns1 : h1.Ns X.L m := ns_at R.4 fun o e => hk1 _ o e ne.2.1.symm
      have R1 := R.chg (tk := s'.toks) (H' := h1) (m' := m) hk1 hk1 (fun _ _ e => e) b1 (ouN _) (.inl oi) ns1 (let ⟨o, e, _⟩ := hit1; ⟨o, e, fun z => absurd oi z⟩) (iter_nr hi)
      refine wpAny_assign_Name (wpAny_storeName_local LC.7 (hloc.symm ▸ ns1) (fun h2 ns2 sb2 => ?_) (by rw [R.1.2]; rfl))
      rw [hloc] at ns2 sb2
      have hk2 : ∀ b o, h1.get? b = some o → b ≠ X.L → h2.get? b = some o := fun b o e n => (sb2.2 b n).trans e
      have R2 := R1.chg (tk := s'.toks + 1) (H' := h2) (m' := fun x => if x = nm n_number then some vs[i] else m x) hk2 hk2 (fun _ _ e => e) bL (ouN _) (.inr (.inl R.5)) ns2 (let ⟨o, e⟩ := ns_ex ns2; ⟨o, e, fun _ => ns_nr ns2 e⟩) fun o e => ns_nr ns1 e
      refine law_body LC R2 nil (by omega) ((if_neg fun z => absurd (nm_inj z) (by decide)).trans hw) ((if_pos rfl).trans (congrArg some hx)) fun s3 Vw3 cs3 own3 R3 nil3 K3 => ?_
      obtain ⟨oi', ei, ri⟩ := hit1
      have eit := hk2 _ _ ei ne.2.1
      have el := hk2 _ _ (hk1 _ _ hl ne.1.symm) ne.2.2
      exact ⟨mm - 1, by omega, i + 1, Vw3, cs3, own3, _, by omega, R3, nil3, (if_neg fun z => absurd (nm_inj z) (by decide)).trans hw, K3.1 _ _ eit oi, K3.1 _ _ el ol, ⟨oi', K3.3 _ _ eit oi List.not_mem_nil, ri⟩, K3.3 _ _ el ol List.not_mem_nil⟩
    · refine pyNext_list_end (.inl (R.1.18 R.7)) hi hL (by rw [List.getElem?_toArray]; exact List.getElem?_eq_none (Nat.le_of_not_lt q)) fun h1 hk ht => ?_
      dsimp only
      have hk1 : ∀ b o, s'.heap.get? b = some o → b ≠ it → h1.get? b = some o := fun b o e n => hk b o n e
      have R1 := R.chg (tk := s'.toks) (H' := h1) (m' := m) hk1 hk1 (fun _ _ e => e) b1 (ouN _) (.inl oi) (ns_at R.4 fun o e => hk1 _ o e ne.2.1.symm) (let ⟨o, e⟩ := ht; ⟨o, e, fun z => absurd oi z⟩) (iter_nr hi)
      exact wpAny_execs_nil (k _ _ _ _ _ _ R1)
end
section
variable {N T T' n c b : Nat} {A A' : Nat → Addr} {Vw Vw' : Val} {h h' h₁ H H' : Heap} {s s' : Shared} {m m' : PySem.Str → Option Value} {p : Obj} {e : EM}
inductive EmC (l : List SObj) (c : Nat) (e : EM) : Prop | mk (al : emAll e l (objsOf mu0 []) 0 = true) (ss : e.ss.all (fun e => okS e.2) = true) (is : e.is.all (fun e => okI e.2) = true) (w : ∀ i, i < 5 → lk e.ids i = some (i + 1)) (i5 : lk e.ids 5 = (listAt l 4)[c]?) (i22 : lk e.ids 22 = (listAt l 5)[c]?)
  (c1 : lk e.is 1 = some (.int c)) (c5 : lk e.is 5 = some (.int 0)) (d : e.d = none) (ls : e.ls = [(0, listAt l 4), (1, listAt l 5)])
theorem emC_ok {l : List SObj} : Ok (emC l c) (EmC l c) := .bind fun a ha => .bind fun b hb => .bind fun e _ => .wh fun h => .ret (by
  have h1 := an_bool h
  have h2 := an_bool h1.2
  have h3 := an_bool h2.2
  have h4 := an_bool h3.2
  have h5 := an_bool h4.2
  have h6 := an_bool h5.2
  have h7 := an_bool h6.2
  have h8 := an_bool h7.2
  have h9 := an_bool h8.2
  have any : ∀ {i k : Nat}, ((lk e.ids i).any (Nat.beq k)) = true → lk e.ids i = some k := fun q => any_of q fun j hj q => (Nat.eq_of_beq_eq_true q).symm ▸ hj
  exact ⟨h1.1, h2.1, h3.1, fun i hi => any (List.all_eq_true.mp h4.1 i (List.mem_range.mpr hi)), (any h5.1).trans ha.symm, (any h6.1).trans hb.symm, any_of h7.1 fun v hv q => SV.eqb_of q ▸ hv, any_of h8.1 fun v hv q => SV.eqb_of q ▸ hv, non_of h9.1, of_decide_eq_true h9.2⟩)
inductive InitR (b : Nat) : Prop | mk (fr' : SFr) (σ' : SS) (e : execs (run prog FU) none lawIR ⟨[(n_numbers, .ref 0)], []⟩ ⟨[.alist 2], rows0 b⟩ = some (.next, fr', σ')) (w : lk fr'.loc n_world = some (.ref 1)) (nu : lk fr'.loc n_numbers = some (.ref 0)) (o0 : σ'.objs[0]? = some (.alist 2)) (len : (listAt σ'.objs 4).length = b + 2) (len5 : (listAt σ'.objs 5).length = b + 2)
  (em : ∀ c, c < b + 2 → ∃ e, emC σ'.objs c = some e) (nd : ((gI σ'.objs (b + 2)).map (·.1)).Nodup)
theorem initR (h : initB b = true) : InitR b := any_of h fun q e h => by
  have h1 := an_bool h
  have h2 := an_bool h1.2
  have h3 := an_bool h2.2
  have h4 := an_bool h3.2
  have h5 := an_bool h4.2
  have h6 := an_bool h5.2
  have h7 := an_bool h6.2
  obtain ⟨fl, fr', σ'⟩ := q
  cases isNext_of h1.1
  refine ⟨fr', σ', e, any_of h2.1 fun v hv q => SV.eqb_of q ▸ hv, any_of h3.1 fun v hv q => SV.eqb_of q ▸ hv, any_of h4.1 fun o ho q => ?_, Nat.eq_of_beq_eq_true h5.1, Nat.eq_of_beq_eq_true h6.1, fun c hc => Option.isSome_iff_exists.mp (List.all_eq_true.mp h7.1 c (List.mem_range.mpr hc)), of_decide_eq_true h7.2⟩
  cases o with
  | alist i => cases Nat.eq_of_beq_eq_true q; exact ho
  | _ => cases q
noncomputable def tagI (t : Nat × Nat) : Ow := match t.1 with | 0 => .wo t.2 | c + 1 => .ob c t.2
noncomputable def gO (l : List (Nat × (Nat × Nat))) (j : Nat) : Ow := (lk l j).elim .non tagI
theorem rc0 : (mu0, ([] : LL)) ∈ reach := inReach_of (by decide +kernel)
theorem init_raw {V : Val} {fr' : SFr} (S : At (X.fo p V) fr' σ' w') (lm : X.lm = none) (hd : X.hd = none) (fs : Fs X) (hV : VOK V) (hb : b + 2 ≤ 1000) (len : (listAt σ'.objs 4).length = b + 2) (len5 : (listAt σ'.objs 5).length = b + 2) (em : ∀ c, c < b + 2 → ∃ e, emC σ'.objs c = some e) (nd : ((gI σ'.objs (b + 2)).map (·.1)).Nodup) :
    ∃ Vw cs own, An (Raw X (b + 2) 0 (fun i => w'.ρ (i + 1)) Vw cs own w'.s.heap w'.s w'.m) (∀ (i : Nat) (C : Cli), cs[i]? = some C → C.L = []) := by
  obtain ⟨em, hem⟩ : ∃ em : Nat → EM, ∀ c, c < b + 2 → emC σ'.objs c = some (em c) := ⟨fun c => (emC σ'.objs c).getD ⟨[], [], [], none, []⟩, fun c hc => by obtain ⟨e, q⟩ := em c hc; dsimp only; rw [q]; rfl⟩
  have E : ∀ c, c < b + 2 → EmC σ'.objs c (em c) := fun c hc => emC_ok _ (hem c hc)
  let own := ownT X (fun _ => .non) 0 (gO (gI σ'.objs (b + 2))) w'
  have g0 : ∀ i, i < 5 → gO (gI σ'.objs (b + 2)) (i + 1) = .wo i := fun i hi => congrArg (fun o : Option (Nat × Nat) => o.elim .non tagI) (lk_of nd (List.mem_append_left _ (List.mem_map_of_mem (f := fun i => (i + 1, 0, i)) (List.mem_range.mpr hi))))
  have g1 : ∀ c, c < b + 2 → ∀ i j, 5 ≤ i → i < (objsOf mu0 []).length → lk (em c).ids i = some j → gO (gI σ'.objs (b + 2)) j = .ob c i := fun c hc i j h5 hi q => congrArg (fun o : Option (Nat × Nat) => o.elim .non tagI) (lk_of (v := (c + 1, i)) nd (List.mem_append_right _ (List.mem_flatMap.mpr ⟨c, List.mem_range.mpr hc, by
    rw [hem c hc]
    exact List.mem_filterMap.mpr ⟨i, List.mem_filter.mpr ⟨List.mem_range.mpr hi, Nat.ble_eq_true_of_le h5⟩, by rw [q]; rfl⟩⟩)))
  have gof : ∀ j, gO (gI σ'.objs (b + 2)) j ≠ .non → ∃ c i, c < b + 2 ∧ i < (objsOf mu0 []).length ∧ lk (em c).ids i = some j := fun j hj => by
    cases q : lk (gI σ'.objs (b + 2)) j with
    | none => exact absurd (congrArg (fun o : Option (Nat × Nat) => o.elim Ow.non tagI) q) hj
    | some t =>
      rcases List.mem_append.mp (lk_mem q) with z | z
      · obtain ⟨i, hi, z⟩ := List.mem_map.mp z
        cases z
        have hi := List.mem_range.mp hi
        exact ⟨0, i, Nat.succ_pos _, Nat.lt_trans hi (by decide), (E 0 (Nat.succ_pos _)).4 i hi⟩
      · obtain ⟨c, hc, z⟩ := List.mem_flatMap.mp z
        have hc := List.mem_range.mp hc
        rw [hem c hc] at z
        obtain ⟨i, hi, z⟩ := List.mem_filterMap.mp z
        obtain ⟨j', e', z⟩ := Option.map_eq_some_iff.mp z
        cases z
        exact ⟨c, i, hc, List.mem_range.mp (List.mem_filter.mp hi).1, e'⟩
  have vkc : ∀ c, c < b + 2 → VOK (landV (em c) V w'.ρ) := fun c hc => land_vok (E c hc).2 (fun i js q => by
    rw [(E c hc).10] at q
    exact lk_all (p := fun _ (js : List Nat) => js.length ≤ 1000) (all_cons (a := (0, listAt σ'.objs 4)) (len ▸ hb) (all_cons (a := (1, listAt σ'.objs 5)) (len5 ▸ hb) all_nil)) q) hV
  have L : ∀ c, c < b + 2 → ∀ i so, (objsOf mu0 [])[i]? = some so → An (OJ X.G (landV (em c) V w'.ρ) (landR (em c) w'.ρ) w'.s.heap (landR (em c) w'.ρ i) so) (own (landR (em c) w'.ρ i) = tagO c i) := fun c hc i so hi => by
    have Ec := E c hc
    obtain ⟨j, q, h1, h2, h3⟩ := emAll_at Ec.1 hi
    rw [Nat.zero_add] at h1
    have r : landR (em c) w'.ρ i = w'.ρ j := congrArg (fun o => o.elim 0 w'.ρ) h1
    refine ⟨by rw [r]; exact OI.land (into_land Ec.2 Ec.3) h3 (not_pin rc0 hi) (S.1 j q h2).1, r.symm ▸ ownT_ob S (SS.at_lt h2) ?_⟩
    unfold tagO
    by_cases h5 : i < 5
    · rw [if_pos h5]
      cases h1.symm.trans (Ec.4 i h5)
      exact g0 i h5
    · rw [if_neg h5]; exact g1 c hc i j (Nat.le_of_not_lt h5) (List.getElem?_eq_some_iff.mp hi).1 h1
  have c0 : 0 < b + 2 := Nat.succ_pos _
  have lst : ∀ c, c < b + 2 → (landV (em c) V w'.ρ).lst = (landV (em 0) V w'.ρ).lst := fun c hc => funext fun i => by
    show (lk (em c).ls i).elim _ _ = (lk (em 0).ls i).elim _ _
    rw [(E c hc).10, (E 0 c0).10]
  have wa : ∀ c, c < b + 2 → ∀ i, i < 5 → landR (em c) w'.ρ i = w'.ρ (i + 1) := fun c hc i hi => congrArg (fun o => o.elim 0 w'.ρ) ((E c hc).4 i hi)
  have l4 : (landV (em 0) V w'.ρ).lst 0 = (listAt σ'.objs 4).map fun j => Value.ref (w'.ρ j) := by
    show (lk (em 0).ls 0).elim _ _ = _
    rw [(E 0 c0).10]; rfl
  have l5 : (landV (em 0) V w'.ρ).lst 1 = (listAt σ'.objs 5).map fun j => Value.ref (w'.ρ j) := by
    show (lk (em 0).ls 1).elim _ _ = _
    rw [(E 0 c0).10]; rfl
  have csat : ∀ {c : Nat} {C : Cli}, ((List.range (b + 2)).map fun c => (⟨mu0, [], landV (em c) V w'.ρ, landR (em c) w'.ρ⟩ : Cli))[c]? = some C → c < b + 2 ∧ C = ⟨mu0, [], landV (em c) V w'.ρ, landR (em c) w'.ρ⟩ := fun {c C} q => by
    rw [List.getElem?_map] at q
    obtain ⟨i, hi, q⟩ := Option.map_eq_some_iff.mp q
    obtain ⟨hl, hi⟩ := List.getElem?_eq_some_iff.mp hi
    rw [List.length_range] at hl
    rw [List.getElem_range] at hi
    cases hi
    exact ⟨hl, q.symm⟩
  have exx : ∀ a, own a ≠ .non → ∃ o, w'.s.heap.get? a = some o ∧ NoRec o := fun a ha => ownT_of S ha (fun q => let ⟨o, g⟩ := ns_ex S.4; ⟨o, q ▸ g, ns_nr S.4 g⟩) (fun t ht q => by
      have z := (S.10 t ht).1
      cases id z with | mk ps eq _ _ => exact ⟨_, q ▸ eq, triples_nr z eq⟩) (fun d i q _ => nomatch q) fun j q0 _ q2 => by
      obtain ⟨c, i, hc, hi, q⟩ := gof j q0
      have z := (L c hc i _ (List.getElem?_eq_getElem hi)).1
      rw [show landR (em c) w'.ρ i = a from (congrArg (fun o => o.elim 0 w'.ρ) q).trans q2.symm] at z
      obtain ⟨o, g⟩ := z.ex
      exact ⟨o, g, z.noRec g⟩
  refine ⟨landV (em 0) V w'.ρ, (List.range (b + 2)).map fun c => ⟨mu0, [], landV (em c) V w'.ρ, landR (em c) w'.ρ⟩, own, ⟨fs, ⟨List.length_map .. |>.trans List.length_range, vkc 0 c0, ?_, (congrArg List.length l4).trans ((List.length_map ..).trans len), fun i so hi => ?_, fun c C hC => ?_⟩, fun _ _ e => e, S.4, if_pos rfl, lm, hd, fun t ht => ⟨(S.10 t ht).1, ownT_tab S ht⟩, S.11, S.12, fun a o e => ?_, ⟨w'.k, S.18⟩, fun a ha => ?_, fun a ha => let ⟨o, e, _⟩ := exx a ha; ⟨o, e⟩, fun a o ha e => ?_, fun a d i q => let ⟨o, e, _⟩ := exx a fun z => nomatch q.symm.trans z; ⟨o, e⟩⟩, fun i C hC => by rw [(csat hC).2]⟩
  · have e5 : (landV (em 0) V w'.ρ).int 5 = 0 := by
      show ((lk (em 0).is 5).bind (ival V)).getD 0 = 0
      rw [(E 0 c0).8]; rfl
    rw [e5]; exact ⟨Int.le_refl 0, Int.le_refl 0⟩
  · have h5 : i < 5 := (List.getElem?_eq_some_iff.mp hi).1
    have q := L 0 c0 i so ((objs_world h5).trans hi)
    rw [wa 0 c0 i h5] at q
    exact ⟨q.1.ext (fun j hj => (wa 0 c0 j hj).symm) (world_lt hi), q.2.trans (if_pos h5)⟩
  · obtain ⟨hc, rfl⟩ := csat hC
    have Ec := E c hc
    refine ⟨rc0, vkc c hc, ?_, ?_, lst c hc, wa c hc, fun i so hi h5 => have q := L c hc i so hi; ⟨q.1, q.2.trans (if_neg (Nat.not_lt.mpr h5))⟩, ?_, ?_⟩
    · show ((lk (em c).is 1).bind (ival V)).getD 0 = (c : Int)
      rw [Ec.7]; rfl
    · show DOK 0 ((em c).d.elim [(0, "")] V.dic)
      rw [Ec.9]
      exact DOK.one (by decide) (by decide) (show PyData.strOk (Str.ofString "") = true by decide +kernel)
    · obtain ⟨j, _, q, _⟩ := emAll_at Ec.1 (show (objsOf mu0 [])[5]? = some _ from rfl)
      rw [Nat.zero_add] at q
      rw [l4, List.getElem?_map, ← Ec.5, q]
      exact congrArg (fun o : Option Nat => some (Value.ref (o.elim 0 w'.ρ))) q.symm
    · obtain ⟨j, _, q, _⟩ := emAll_at Ec.1 (show (objsOf mu0 [])[22]? = some _ from rfl)
      rw [Nat.zero_add] at q
      rw [l5, List.getElem?_map, ← Ec.6, q]
      exact congrArg (fun o : Option Nat => some (Value.ref (o.elim 0 w'.ρ))) q.symm
  · have q := S.3 a o (S.17 a o e)
    exact ⟨q.1, ownT_kept S q.2⟩
  · obtain ⟨o, es, n, e, d⟩ := S.19 a ha
    have q := S.3 a o e
    exact ⟨ownT_kept S q.2, o, es, n, q.1, d⟩
  · obtain ⟨o', e', q⟩ := exx a ha
    exact Option.some.inj (e'.symm.trans e) ▸ q
end
end
end Mine
namespace Mine
open PySem PySem.W PyProof.Rows PySem.Calls
section
variable {G : Gl}
section
variable {prog : Program} {w : World} {A : Around} {E : Value → Shared → Prop} {s : Shared} {env : Env} {mg mb : PySem.Str → Option Value}
noncomputable def Grew (s s' : Shared) : Prop := ∃ h' tk, s' = { s with heap := h', toks := tk } ∧ ∀ b o, s.heap.get? b = some o → h'.get? b = some o
theorem Grew.refl (s : Shared) : Grew s s := ⟨s.heap, s.toks, rfl, fun _ _ e => e⟩
theorem Grew.tk {tk : Nat} : Grew s { s with toks := tk } := ⟨s.heap, tk, rfl, fun _ _ e => e⟩
theorem Grew.trans {s1 s2 s3 : Shared} : Grew s1 s2 → Grew s2 s3 → Grew s1 s3
  | ⟨h1, t1, e1, k1⟩, ⟨h2, t2, e2, k2⟩ => ⟨h2, t2, by rw [e2, e1], fun b o e => k2 b o (by rw [e1]; exact k1 b o e)⟩
theorem Grew.at {s' : Shared} (g : Grew s s') {b : Addr} {o : Obj} (e : s.heap.get? b = some o) : s'.heap.get? b = some o := by obtain ⟨h, t, rfl, k⟩ := g; exact k b o e
theorem Grew.list {s' : Shared} (g : Grew s s') {b : Addr} {items : Array Value} (e : s.heap.IsList b items) : s'.heap.IsList b items := by obtain ⟨o, e, r⟩ := e; exact ⟨o, g.at e, r⟩
theorem Grew.ns {s' : Shared} (g : Grew s s') {b : Addr} {m : PySem.Str → Option Value} (e : s.heap.Ns b m) : s'.heap.Ns b m := by obtain ⟨h, t, rfl, k⟩ := g; exact e.keeps k
theorem Grew.push {s' : Shared} (g : Grew s s') (o : Obj) : Grew s { s' with heap := s'.heap.push o } := by obtain ⟨h, t, rfl, k⟩ := g; exact ⟨_, t, rfl, fun b o' e => Heap.get?_push_of_some _ (k b o' e)⟩
theorem name_blt (hk : env.scope.kind = .function) {x : PySem.Str} {p : Pos} {v : Value} (hg : env.globals = mainGlobals) (hb : env.builtins = builtinsNs) (hx : env.kindOf x = some .globalImplicit) (Tg : s.heap.Ns mainGlobals mg) (Tb : s.heap.Ns builtinsNs mb) (h1 : mg x = none) (h2 : mb x = some v) (hd : (x == ("__debug__" : PySem.Str)) = false) {Q : Value → Shared → Prop} (h : Q v s) :
    wpAny (model prog w) A (eval (.Name x p) env) Q E s :=
  Name_function_global hk hx (loadGlobal_builtin (by rw [hg]; exact Tg) h1 (by rw [hb]; exact Tb) h2 h) hd
theorem pl_hp {G : Gl} : ∀ {e : IE} {z : Expr}, (plF ck0 e z).den G → plB z = true := fun h => h.1
theorem call_blt (G : Gl) {l : List IE} {es : List Expr} (ms : (ckEs plF ck0 l es).den G) {x : PySem.Str} {xp p : Pos} {b : String} {Q : Value → Shared → Prop} (hn : ∀ Q' : Value → Shared → Prop, Q' (.builtin b) s → wpAny (model prog w) A (eval (.Name x xp) env) Q' E s)
    (h : wpAny (model prog w) A (spliced (backTo p (starEach es env))) (fun vs s₁ => wpAny (model prog w) A (PySem.call (.builtin b) vs []) Q E s₁) E s) : wpAny (model prog w) A (eval (.Call (.Name x xp) es [] p) env) Q E s :=
  wpAny_Call_ofName (hn _ (callWith_of (P := KpOK (model prog w) (.builtin b)) (by rw [plain_each pl_hp ms]; rfl) (fun _ x => x) (evalArgs_pos pl_hp ms (wpAny_mono h (fun vs s₁ h₁ => ⟨kp_plain (fun _ q => by cases q), h₁⟩) fun _ _ x => x))))
theorem IsList.push' {h : Heap} {l : Addr} {items : Array Value} (e : h.IsList l items) (o : Obj) : (h.push o).IsList l items := e.push o
theorem slice_upto {value : Expr} {ub : Expr} {p pos : Pos} {Q : Value → Shared → Prop}
    (h : wpAny (model prog w) A (eval value env) (fun o s₁ => ∃ l items, o = .ref l ∧ s₁.heap.IsList l items ∧ items.size ≤ sizeLine ∧ wpAny (model prog w) A (eval ub env) (fun u s₂ => Grew s₁ s₂ ∧ ∃ (n : Nat) (t : Tok), u = .int n t ∧ ∀ a s₃, Grew s₂ s₃ → s₃.heap.get? a = some (listOf (items.toList.take n).toArray 0) → s₂.heap.get? a = none → Q (.ref a) s₃) E s₁) E s) :
    wpAny (model prog w) A (eval (.Subscript value (.Slice none (some ub) none p) pos) env) Q E s := by
  refine Subscript_ (wpAny_mono h (fun o s₁ h₁ => ?_) fun _ _ x => x)
  obtain ⟨l, items, rfl, hl, hsz, h₁⟩ := h₁
  refine wpAny_Slice (wpAny_pure (wpAny_mono h₁ (fun u s₂ h₂ => wpAny_pure ?_) fun _ _ x => x))
  obtain ⟨g, n, t, rfl, k⟩ := h₂
  have hl2 := (g.list hl).push { cls := .type "slice", data := .fields #[.none, .int n t, .none] }
  refine tail_any (Heap.IsList.typeIs (s := { s₂ with heap := s₂.heap.push { cls := .type "slice", data := .fields #[.none, .int n t, .none] } }) hl2) list_getitem_lookup
    (wpAny_getItem_list_slice hl2 (Heap.IsSliceOf.new ..) .none (.int ..) .none (by decide) ?_ hsz) rfl
  rw [slicePick_upto' items n]
  refine k _ _ (((Grew.refl s₂).push _).push _) (Heap.get?_push_size _ rfl) ?_
  cases e : s₂.heap.get? (s₂.heap.push { cls := .type "slice", data := .fields #[.none, .int n t, .none] }).objs.size with
  | none => rfl
  | some o => have := Heap.lt_size e; rw [Heap.size_push] at this; exact absurd (Nat.lt_of_succ_lt this) (Nat.lt_irrefl _)
theorem elt_ok (G : Gl) {C : Addr} {m : PySem.Str → Option Value} {csc : Scope} (hk : csc.kind = .function) (hn : csc.names.lookup ("number" : PySem.Str) = some .local) (ha : csc.names.lookup ("abs" : PySem.Str) = some .globalImplicit) (hg : env.globals = mainGlobals) (hb : env.builtins = builtinsNs) (Tg : s.heap.Ns mainGlobals mg) (Tb : s.heap.Ns builtinsNs mb)
    (h1 : mg "abs" = none) (h2 : mb "abs" = some (.builtin "abs")) (hm : s.heap.Ns C m) {x : Int} {t : Tok} (hx : m "number" = some (.int x t)) {p1 p2 p3 p4 p5 p6 p7 : Pos} {k1 k2 : Nat} {E' : Value → Shared → Prop} :
    wpAny (model prog w) A (eval (.BinOp (.Call (.Name "abs" p1) [.Name "number" p2] [] p3) .Mod (.BinOp (.Constant (.int 10) k1 p4) .Pow (.Constant (.int 6) k2 p5) p6) p7) (compEnv csc C env)) (fun y s₃ => (∃ u, y = .int (Int.fmod (if x < 0 then -x else x) 1000000) u) ∧ Keeps s s₃) E' s := by
  have nn : ("number" : PySem.Str) = nm n_number := by decide +kernel
  have dn : (("number" : PySem.Str) == ("__debug__" : PySem.Str)) = false := by decide +kernel
  refine wpAny_BinOp (call_blt (env := compEnv csc C env) G (l := [.bad]) (es := [.Name "number" p2]) ⟨⟨rfl, trivial⟩, rfl, trivial⟩ (fun Q' q => name_blt (env := compEnv csc C env) hk hg hb ha Tg Tb h1 h2 (by decide +kernel) q) ?_)
  rw [nn]
  refine spliced_more (wpAny_Name (wpAny_loadName_local hk (by rw [← nn]; exact hn) hm (by rw [← nn]; exact hx) (spliced_none (call_abs_int fun u tk => ?_))) (debug_ne _)) rfl
  refine wpAny_BinOp (wpAny_Constant_int (wpAny_Constant_int (pow_int_small (by decide) (by decide) (by decide) ?_)))
  refine mod_int' (by decide) ⟨⟨_, rfl⟩, ?_⟩
  exact ⟨s.heap, _, rfl, fun _ _ e => e⟩
noncomputable def IntV (v : Value) : Prop := ∃ (x : Int) (t : Tok), v = .int x t
noncomputable def NatV (v : Value) : Prop := ∃ (x : Int) (t : Tok), v = .int x t ∧ 0 ≤ x
theorem paired_nat {xs ys : List Value} {F : Value → Value → Prop} (hF : ∀ x y, F x y → NatV y) (p : Paired F xs ys) : ys.length = xs.length ∧ ∀ v ∈ ys, NatV v := by
  induction p with
  | nil => exact ⟨rfl, fun _ h => nomatch h⟩
  | cons h _ ih => exact ⟨by simp [ih.1], fun v hv => (List.mem_cons.mp hv).elim (fun e => e ▸ hF _ _ h) (ih.2 v)⟩
theorem AN.keptAll {h₀ h h' : Heap} {L : Addr} {m m₀ : PySem.Str → Option Value} {rest : List (Addr × Obj)} (F : Fr h₀ L h' m) (N : News h₀ L h' rest) (hr : ∀ p ∈ AN h₀ L h, p ∈ rest) (F₀ : Fr h₀ L h m₀) : ∀ b o, h.get? b = some o → b ≠ L → h'.get? b = some o := fun b o e hL => by
  cases q : h₀.get? b with
  | some o' => exact Option.some.inj ((F₀.keep b o' q).symm.trans e) ▸ F.keep b o' q
  | none => exact (N _ (hr (b, o) (AN.mem.mpr ⟨e, hL, q⟩))).1
theorem stmt1 (G : Gl) {H0 : Heap} {Ll : Addr} {m : PySem.Str → Option Value} (F : Fr H0 Ll s.heap m) (hA : A.handled = none) (hk : env.scope.kind = .function) (hloc : env.locals = Ll) (hg : env.globals = mainGlobals) (hb : env.builtins = builtinsNs) (Tg : s.heap.Ns mainGlobals mg) (Tb : s.heap.Ns builtinsNs mb)
    (g1 : mg "abs" = none) (b1 : mb "abs" = some (.builtin "abs")) (g2 : mg "max" = none) (b2 : mb "max" = some (.builtin "max")) (g3 : mg "len" = none) (b3 : mb "len" = some (.builtin "len"))
    (n1 : env.scope.names.lookup (nm n_script) = some .local) (n2 : env.scope.names.lookup (nm n_numbers) = some .local) (n3 : env.scope.names.lookup ("max" : PySem.Str) = some .globalImplicit) (n4 : env.scope.names.lookup ("len" : PySem.Str) = some .globalImplicit)
    {csc : Scope} (c1 : csc.kind = .function) (c2 : csc.names.lookup ("number" : PySem.Str) = some .local) (c3 : csc.names.lookup ("abs" : PySem.Str) = some .globalImplicit) (c4 : ∀ y ∈ csc.names, y.2 ≠ .free) (c5 : ∀ y ∈ csc.names, y.2 ≠ .cell) (c6 : ∀ y ∈ csc.names, y.2 = .local → csc.names.lookup y.1 = some .local)
    {sa : Addr} {items : Array Value} (hs : m (nm n_script) = some (.ref sa)) (hl : s.heap.IsList sa items) (hi : ∀ v ∈ items, IntV v) (hsz : items.size ≤ 63)
    {a0 a1 a2 a3 a4 a5 a6 a7 a8 a9 d0 d1 d2 d3 d4 d5 d6 d7 d8 d9 e0 e1 e2 e3 e4 e5 e6 e7 e8 e9 : Pos} {k1 k2 k3 k4 k5 k6 k7 k8 : Nat} {Q : Flow → Shared → Prop}
    (k : ∀ h' tk nl n vs, (∀ b o, s.heap.get? b = some o → b ≠ Ll → h'.get? b = some o) → h'.Ns Ll (fun y => if y = nm n_numbers then some (.ref nl) else m y) → h'.get? nl = some (listOf (List.toArray vs) n) → s.heap.get? nl = none → nl ≠ Ll → (∀ v ∈ vs, NatV v) → 3 ≤ vs.length → vs.length ≤ 17 → Q .next { s with heap := h', toks := tk }) :
    wpAny (model prog w) A (PySem.exec (.Assign [.Name (nm n_numbers) a0] (.BinOp (.ListComp (.BinOp (.Call (.Name "abs" a1) [.Name "number" a2] [] a3) .Mod (.BinOp (.Constant (.int 10) k1 a4) .Pow (.Constant (.int 6) k2 a5) a6) a7)
      [⟨.Name "number" a8, .Subscript (.Name (nm n_script) a9) (.Slice none (some (.Constant (.int 14) k3 d0)) none d1) d2, [], 0⟩] csc d3) .Add
      (.Subscript (.List [.Constant (.int 0) k4 d4, .Constant (.int 1) k5 d5, .Constant (.int 2) k6 d6] d7) (.Slice none (some (.Call (.Name "max" d8) [.Constant (.int 0) k7 d9, .BinOp (.Constant (.int 3) k8 e0) .Sub (.Call (.Name "len" e1) [.Name (nm n_script) e2] [] e3) e4] [] e5)) none e6) e7) e8) e9) env) Q E s := by
  have sz : 1000 ≤ sizeLine := size_1000
  refine wpAny_Assign_Name (wpAny_BinOp ?_) rfl
  refine wpAny_ListComp_map (fun _ => true) (fun v y => ∃ x t u, v = .int x t ∧ y = .int (Int.fmod (if x < 0 then -x else x) 1000000) u) hA c4 c5 c1 c6 c2 ?_ (fun _ => rfl)
  refine slice_upto (wpAny_Name (wpAny_loadName_local hk n1 (by rw [hloc]; exact F.ns) hs ?_) (debug_ne _))
  refine ⟨sa, items, rfl, hl, by omega, wpAny_Constant_int ⟨Grew.tk, 14, _, rfl, fun a s₃ g ha hn => ?_⟩⟩
  have g' : Grew s s₃ := Grew.tk.trans g
  refine ⟨a, _, rfl, ⟨_, ha, rfl, _, rfl⟩, by simp; omega, fun C v s₂ m₂ E' hv hm₂ hx hkp => wpAny_pure ⟨rfl, s₂.heap, s₂.toks, rfl, fun _ _ e => e⟩, fun C v s₂ m₂ E' hv _ hm₂ hx hkp => ?_, fun D h' tk ys hD hL hP hkp => ?_⟩
  · have : v ∈ items := by
      have := Array.mem_def.mp hv
      exact Array.mem_def.mpr (List.mem_of_mem_take (by simpa using this))
    obtain ⟨x, t, rfl⟩ := hi v this
    refine wpAny_mono (elt_ok G (mg := mg) (mb := mb) c1 c2 c3 hg hb (by obtain ⟨o, es, ep, e, r⟩ := g'.ns Tg; exact ⟨o, es, ep, hkp _ _ e, r⟩) (by obtain ⟨o, es, ep, e, r⟩ := g'.ns Tb; exact ⟨o, es, ep, hkp _ _ e, r⟩) g1 b1 hm₂ hx) (fun y s₃ h₃ => ?_) fun _ _ e => e
    obtain ⟨⟨u, rfl⟩, hk3⟩ := h₃
    exact ⟨⟨x, t, u, rfl, rfl⟩, hk3⟩
  · obtain ⟨pl, pn⟩ := paired_nat (fun x y ⟨a, t, u, _, e⟩ => ⟨_, u, e, Int.fmod_nonneg_of_pos _ (by decide)⟩) hP
    let s5 : Shared := { s₃ with heap := h', toks := tk }
    have g5 : Grew s s5 := g'.trans ⟨h', tk, rfl, hkp⟩
    have Dn : s.heap.get? D = none := by
      cases e : s.heap.get? D with
      | none => rfl
      | some o => rw [g'.at e] at hD; cases hD
    have len : ys.size = min 14 items.size := by
      have q := pl
      rw [List.filter_eq_self.mpr (fun _ _ => rfl)] at q
      simpa using q
    refine slice_upto (wpAny_List (spliced_more (wpAny_Constant_int (spliced_more (wpAny_Constant_int (spliced_more (wpAny_Constant_int (spliced_none ⟨by simp; omega, ?_⟩)) rfl)) rfl)) rfl))
    refine ⟨_, _, rfl, ⟨_, Heap.get?_push_size _ rfl, rfl, _, rfl⟩, by simp; omega, ?_⟩
    generalize hs6 : ({ s5 with heap := s5.heap.push { cls := .type "list", data := .seq (List.toArray [Value.int 0 s5.toks, .int 1 (s5.toks + 1), .int 2 (s5.toks + 1 + 1)]) }, toks := s5.toks + 1 + 1 + 1 } : Shared) = s6
    have g6 : Grew s s6 := by rw [← hs6]; exact g5.trans ⟨_, _, rfl, fun b o e => Heap.get?_push_of_some _ e⟩
    have lenE : ("len" : PySem.Str) = nm n_len := by decide +kernel
    refine call_blt G (l := [.bad, .bad]) (es := [.Constant (.int 0) k7 d9, .BinOp (.Constant (.int 3) k8 e0) .Sub (.Call (.Name "len" e1) [.Name (nm n_script) e2] [] e3) e4]) ⟨⟨rfl, trivial⟩, ⟨rfl, trivial⟩, rfl, trivial⟩ (fun Q' q => name_blt hk hg hb n3 (g6.ns Tg) (g6.ns Tb) g2 b2 (by decide +kernel) q) ?_
    refine spliced_more (wpAny_Constant_int (spliced_more (wpAny_BinOp (wpAny_Constant_int ?_)) rfl)) rfl
    refine call_blt G (l := [.bad]) (es := [.Name (nm n_script) e2]) ⟨⟨rfl, trivial⟩, rfl, trivial⟩ (fun Q' q => name_blt hk hg hb n4 ((g6.trans Grew.tk).ns Tg) ((g6.trans Grew.tk).ns Tb) g3 b3 (by decide +kernel) q) ?_
    have g7 := g6.trans (Grew.tk (tk := s6.toks + 1 + 1))
    refine spliced_more (wpAny_Name (wpAny_loadName_local hk n1 (by rw [hloc]; exact g7.ns F.ns) hs (spliced_none (Calls.call_len_list (g7.list hl) (by omega) ?_))) (debug_ne _)) rfl
    refine sub_int (spliced_none (max_two_ints hA fun h8 tk8 kp8 => ?_))
    have hval : ∀ u tt, ∃ (n : Nat) (t : Tok), (if (3 - (items.size : Int)) > 0 then Value.int (3 - (items.size : Int)) u else .int 0 tt) = .int n t ∧ n = 3 - items.size := fun u tt => by
      by_cases q : (3 - (items.size : Int)) > 0
      · rw [if_pos q]
        exact ⟨3 - items.size, _, by rw [show ((3 - items.size : Nat) : Int) = 3 - (items.size : Int) by omega], rfl⟩
      · rw [if_neg q]
        exact ⟨0, _, rfl, by omega⟩
    obtain ⟨n, t, hn, hnn⟩ := hval _ _
    refine ⟨?_, n, t, hn, fun a2 s9 g9 ha2 hn2 => ?_⟩
    · exact ⟨h8, tk8, rfl, kp8⟩
    have g8 : Grew s6 s9 := by refine Grew.trans ?_ g9; exact ⟨h8, tk8, rfl, kp8⟩
    have gs : Grew s s9 := g6.trans g8
    have F9 : Fr H0 Ll s9.heap m := ⟨gs.ns F.ns, fun b o e => gs.at (F.keep b o e), F.above⟩
    have hD9 : s9.heap.IsList D ys.toList.toArray := by
      have : s5.heap.IsList D ys := hL
      have g56 : Grew s5 s6 := by rw [← hs6]; exact ⟨_, _, rfl, fun b o e => Heap.get?_push_of_some _ e⟩
      simpa using (g56.trans g8).list this
    refine add_lists F9 (AN.news (h₀ := H0) (L := Ll) (h := s9.heap)) hD9 ⟨_, ha2, rfl, _, rfl⟩ (fun h10 F10 N10 => ?_) ?_
    · have keep10 := AN.keptAll F10 (fun p hp => N10 p (.tail _ hp)) (fun p hp => hp) F9
      have new10 := N10 _ (.head _)
      refine wpAny_storeName_local n2 (by rw [hloc]; exact F10.ns) (fun h11 hn11 sb11 => ?_) (by rw [hk]; rfl)
      rw [hloc] at hn11 sb11
      have nsz : s9.heap.objs.size ≠ Ll := fun z => by
        obtain ⟨o, es, ep, e, _⟩ := F9.ns
        exact absurd (Heap.lt_size e) (by rw [z]; exact Nat.lt_irrefl _)
      have Dnone : s.heap.get? s9.heap.objs.size = none := by
        cases e : s.heap.get? s9.heap.objs.size with
        | none => rfl
        | some o => exact absurd (Heap.lt_size (gs.at e)) (Nat.lt_irrefl _)
      have lenys : ys.toList.length = min 14 items.size := by simpa using len
      have nat3 : ∀ v ∈ List.take n [Value.int 0 s5.toks, .int 1 (s5.toks + 1), .int 2 (s5.toks + 1 + 1)], NatV v := fun v hv => by
        have := List.mem_of_mem_take hv
        simp only [List.mem_cons, List.not_mem_nil, or_false] at this
        rcases this with rfl | rfl | rfl
        · exact ⟨0, _, rfl, by decide⟩
        · exact ⟨1, _, rfl, by decide⟩
        · exact ⟨2, _, rfl, by decide⟩
      obtain ⟨hh, tt, e9, kk⟩ := id gs
      subst e9
      refine k h11 _ _ _ (ys.toList ++ List.take n [Value.int 0 s5.toks, .int 1 (s5.toks + 1), .int 2 (s5.toks + 1 + 1)]) (fun b o e hb => (sb11.2 b hb).trans (keep10 b o (gs.at e) hb)) hn11 ((sb11.2 _ nsz).trans new10.1) Dnone nsz (fun v hv => (List.mem_append.mp hv).elim (pn v) (nat3 v)) ?_ ?_
      · rw [List.length_append, lenys, List.length_take]; simp; omega
      · rw [List.length_append, lenys, List.length_take]; simp; omega
    · rw [List.length_take]; simp; omega
end
end
end Mine
namespace Mine
open PySem PySem.W PyProof.Rows PySem.Calls
section
variable {X : Cx} {I : In} {c : CK} {N : Nat} {fr fr' : SFr} {σ σ' σ₁ σ₂ σ₃ : SS} {w w' : Wd} {V : Val} {ρ : Nat → Addr} {G : Gl} {P : PT}
section
variable {N T T' n c b : Nat} {A A' : Nat → Addr} {Vw Vw' : Val} {h h' h₁ H H' : Heap} {s s' : Shared} {m m' : PySem.Str → Option Value} {p : Obj} {cs : List Cli} {own : Addr → Ow}
theorem Raw.whole (R : Raw X N T A Vw cs own H s m) : Raw X N T A Vw cs own s.heap s m :=
  ⟨R.1, R.2.mono R.3 (fun _ _ q _ => q) fun _ _ _ q => q, fun _ _ e => e, R.4, R.5, R.6, R.7, R.8, R.9, R.10, fun b o e => have q := R.11 b o e; ⟨R.3 _ _ q.1, q.2⟩, R.12, fun a ha => have q := R.13 a ha; ⟨q.1, let ⟨o, es, k, e, d⟩ := q.2; ⟨o, es, k, R.3 _ _ e, d⟩⟩, R.14, R.15, fun b d i q => let ⟨o, e⟩ := R.16 b d i q; ⟨o, R.3 _ _ e⟩⟩
theorem Raw.new (R : Raw X N T A Vw cs own H s m) {a : Addr} (h : s.heap.get? a = none) : own a = .non := by
  cases q : own a with
  | non => rfl
  | _ => obtain ⟨o, e⟩ := R.14 a fun z => nomatch q.symm.trans z; exact nomatch h.symm.trans e
theorem Raw.base_none (R : Raw X N T A Vw cs own H s m) {a : Addr} (h : s.heap.get? a = none) : X.base.get? a = none := by
  cases q : X.base.get? a with
  | none => rfl
  | some o => exact nomatch h.symm.trans (R.3 _ _ (R.11 _ o q).1)
theorem law_tail (LC : LwC X N) (R : Raw X N 0 A Vw cs own s.heap s m) (nil : ∀ (i : Nat) (C : Cli), cs[i]? = some C → C.L = []) (hw : m (nm n_world) = some (.ref (A 0))) {nl : Addr} (hnum : m (nm n_numbers) = some (.ref nl)) {vs : List Value} {nn : Nat} (hl : s.heap.get? nl = some (listOf (List.toArray vs) nn)) (hvs : ∀ v ∈ vs, IntV v) (h17 : vs.length ≤ 17)
    (k0 : X.env.scope.names.lookup (nm n_numbers) = some .local) {p p0 p1 p2 p3 p4 p5 p6 p7 p8 p9 p10 p11 q0 q1 q2 q3 q4 q5 q6 q7 q8 r0 r1 : Pos} {j0 j1 j2 j3 j4 j5 j6 : Nat} {r : List Stmt} {Q : Flow → Shared → Prop} {E : Value → Shared → Prop}
    (k : ∀ s' T Vw cs own m, Raw X N T A Vw cs own s'.heap s' m → Q (.ret (.bool true)) s') :
    wpAny X.M X.A (PySem.execs [.For (.Name (nm n_number) p0) (.BinOp (.Name (nm n_numbers) q0) .Add (.List [.Constant (.int 0) j0 q1, .Constant (.int 6) j1 q2, .Constant (.int 12) j2 q3, .Constant (.int 1) j3 q4, .Constant (.int 7) j4 q5, .Constant (.int 13) j5 q6] q7) q8)
      [.If (.BoolOp .Or [.UnaryOp .Not (.Call (.Name (nm n__law_one) p1) [.Name (nm n_world) p2, .Name (nm n_number) p3] [] p4) p5, .UnaryOp .Not (.Call (.Name (nm n__law_is_seen) p6) [.Name (nm n_world) p7] [] p8) p9] p10) r [] p11] [] p, .Return (some (.Constant (.bool true) j6 r0)) r1] X.env) Q E s := by
  have sz : 1000 ≤ sizeLine := size_1000
  refine wpAny_execs_cons (wpAny_For (wpAny_BinOp (name_at R k0 hnum ?_)) (fun _ => rfl))
  refine wpAny_List (spliced_more (wpAny_Constant_int (spliced_more (wpAny_Constant_int (spliced_more (wpAny_Constant_int (spliced_more (wpAny_Constant_int (spliced_more (wpAny_Constant_int (spliced_more (wpAny_Constant_int (spliced_none ⟨by simp; omega, ?_⟩)) rfl)) rfl)) rfl)) rfl)) rfl)) rfl)
  generalize hws : [Value.int 0 s.toks, .int 6 (s.toks + 1), .int 12 (s.toks + 1 + 1), .int 1 (s.toks + 1 + 1 + 1), .int 7 (s.toks + 1 + 1 + 1 + 1), .int 13 (s.toks + 1 + 1 + 1 + 1 + 1)] = ws
  have wsn : An (ws.length = 6) (∀ v ∈ ws, IntV v) := hws ▸ ⟨rfl, all_cons ⟨_, _, rfl⟩ (all_cons ⟨_, _, rfl⟩ (all_cons ⟨_, _, rfl⟩ (all_cons ⟨_, _, rfl⟩ (all_cons ⟨_, _, rfl⟩ (all_cons ⟨_, _, rfl⟩ all_nil)))))⟩
  generalize hs1 : s.heap.push { cls := .type "list", data := .seq ws.toArray } = h1
  have kp1 : ∀ b o, s.heap.get? b = some o → h1.get? b = some o := fun b o e => by rw [← hs1]; exact Heap.get?_push_of_some _ e
  have hl2 : h1.get? s.heap.objs.size = some (listOf ws.toArray 0) := by rw [← hs1]; exact Heap.get?_push_size _ rfl
  have R1 := (R.grow (tk := s.toks + 1 + 1 + 1 + 1 + 1 + 1) kp1).whole
  have F1 : Fr ⟨#[], s.heap.life⟩ X.L h1 m := ⟨R1.4, fun b o e => (by cases e), Nat.zero_le _⟩
  refine add_lists F1 (AN.news (h₀ := ⟨#[], s.heap.life⟩) (L := X.L) (h := h1)) (vs := vs) (ws := ws) ⟨_, kp1 _ _ hl, rfl, _, rfl⟩ ⟨_, hl2, rfl, _, rfl⟩ (fun h2 F2 N2 => ?_) (by rw [wsn.1]; omega)
  have keep2 := AN.keptAll F2 (fun p hp => N2 p (.tail _ hp)) (fun p hp => hp) F1
  have new2 := (N2 _ (.head _)).1
  have ouN : ∀ z, z ∉ X.outer.filterMap (·.frame) := fun z => by rw [LC.10]; exact List.not_mem_nil
  have bL : X.base.get? X.L = none := by
    cases q : X.base.get? X.L with
    | none => rfl
    | some o => exact nomatch (R.11 _ o q).2.symm.trans R.5
  have lL : h1.objs.size ≠ X.L := fun z => by
    obtain ⟨o, e⟩ := ns_ex R1.4
    exact absurd (Heap.lt_size e) (z ▸ Nat.lt_irrefl _)
  have ol : own h1.objs.size = .non := R1.new none_size
  have R2 := R1.chg (tk := s.toks + 1 + 1 + 1 + 1 + 1 + 1) (x := X.L) (h' := h2) (H' := h2) (m' := m) keep2 keep2 (fun _ _ e => e) bL (ouN _) (.inr (.inl R.5)) F2.ns (let ⟨o, e⟩ := ns_ex F2.ns; ⟨o, e, fun _ => ns_nr F2.ns e⟩) fun o e => ns_nr R1.4 e
  refine wpAny_pyIter_list (l := h1.objs.size) (items := (vs ++ ws).toArray) ⟨_, new2, rfl, _, rfl⟩ ?_
  generalize hs3 : h2.push { cls := .type "list_iterator", data := .fields #[.ref h1.objs.size, .int 0 0] } = h3
  have kp3 : ∀ b o, h2.get? b = some o → h3.get? b = some o := fun b o e => by rw [← hs3]; exact Heap.get?_push_of_some _ e
  have itnew : ∀ b o, h2.get? b = some o → h2.objs.size ≠ b := fun b o e => Nat.ne_of_gt (Heap.lt_size e)
  have hit : h3.IsListIter h2.objs.size h1.objs.size 0 := by rw [← hs3]; exact ⟨_, Heap.get?_push_size _ rfl, rfl, rfl⟩
  have R3 := (R2.grow (tk := s.toks + 1 + 1 + 1 + 1 + 1 + 1) kp3).whole
  refine law_loop LC (vs := vs ++ ws) (R2.base_none none_size) ⟨itnew _ _ new2, (let ⟨o, e⟩ := ns_ex F2.ns; itnew _ _ e), lL⟩ (fun v hv => (List.mem_append.mp hv).elim (hvs v) (wsn.2 v)) (by rw [List.length_append, wsn.1]; omega) ⟨0, Vw, cs, own, m, rfl, R3, nil, hw, R2.new none_size, ol, hit, kp3 _ _ new2⟩ fun s5 T5 Vw5 cs5 own5 m5 R5 => ?_
  exact wpAny_execs_cons (wpAny_Return_some (wpAny_Constant_bool (k _ _ _ _ _ _ R5)))
end
noncomputable def lawBody : List Stmt := match pw.main.body.getLast? with | some (.FunctionDef _ _ b _ _ _ _ _ _ _) => b | _ => []
noncomputable def lawScope : Scope := match pw.main.body.getLast? with | some (.FunctionDef _ _ _ _ _ _ sc _ _ _) => sc | _ => { kind := .function, names := [], isGenerator := false, isCoroutine := false, more := [] }
noncomputable def lawArgs : Arguments := match pw.main.body.getLast? with | some (.FunctionDef _ ar _ _ _ _ _ _ _ _) => ar | _ => ⟨[], [], none, [], [], none, []⟩
theorem law_args : ∃ an p, lawArgs = ⟨[], [⟨"script", an, p⟩], none, [], [], none, []⟩ := ⟨_, _, rfl⟩
noncomputable def lawC : CK := ⟨lawScope, ("law" : PySem.Str) ++ ".<locals>.", none, false⟩
theorem law_irs : (ckSs (ckS prog 40) lawC lawIR ((lawBody.drop 1).take 2)).run = some [] := by kernel_rfl
inductive LN (sc : Scope) : Prop | mk (kd : sc.kind = .function) (co : sc.isCoroutine = false) (gen : sc.isGenerator = false) (n4 : sc.names.lookup (nm n_script) = some .local) (n5 : sc.names.lookup (nm n_numbers) = some .local) (n6 : sc.names.lookup (nm n_number) = some .local) (n7 : sc.names.lookup (nm n_world) = some .local)
  (n8 : sc.names.lookup (nm n__law_one) = some .globalImplicit) (n9 : sc.names.lookup (nm n__law_is_seen) = some .globalImplicit) (n10 : sc.names.lookup ("max" : PySem.Str) = some .globalImplicit) (n11 : sc.names.lookup ("len" : PySem.Str) = some .globalImplicit)
theorem law_names : LN lawScope := by
  refine ⟨?_, ?_, ?_, ?_, ?_, ?_, ?_, ?_, ?_, ?_, ?_⟩ <;> decide +kernel
end
end Mine
namespace Mine
open PySem PySem.W PyProof.Rows PySem.Calls
section
variable {X : Cx} {I : In} {c : CK} {fr fr' : SFr} {σ σ' σ₁ σ₂ σ₃ : SS} {w w' : Wd} {V : Val} {ρ : Nat → Addr} {G : Gl} {P : PT}
section
variable {N : Nat} {s s' : Shared} {fr₁ : SFr}
theorem execs_cut {i : IS} {l : List IS} {hd : Option Nat} (h : execs I hd (i :: l) fr σ = some (.next, fr', σ')) : ∃ fr₁ σ₁, An (I.exec i hd fr σ = some (.next, fr₁, σ₁)) (execs I hd l fr₁ σ₁ = some (.next, fr', σ')) := by
  have h : b3 (I.exec i hd fr σ) (fun fl fr σ => match fl with | .next => execs I hd l fr σ | fl => some (fl, fr, σ)) = some (.next, fr', σ') := h
  unfold b3 at h
  obtain ⟨⟨fl, fr₁, σ₁⟩, e, h⟩ := Option.bind_eq_some_iff.mp h
  cases fl with
  | next => exact ⟨fr₁, σ₁, e, h⟩
  | _ => cases h
theorem execs_then (H : ExR X I N c) {l : List IS} {Q : Flow → Shared → Prop} {E : Value → Shared → Prop} {rest : List Stmt} (k : ∀ w', At X fr' σ' w' → wpAny X.M X.A (PySem.execs rest X.env) Q E w'.s) : ∀ {m : List Stmt} {fr : SFr} {σ : SS} {w : Wd}, (ckSs (ckS X.P N) c l m).den X.G → execs I X.hd l fr σ = some (.next, fr', σ') → At X fr σ w → wpAny X.M X.A (PySem.execs (m ++ rest) X.env) Q E w.s := by
  induction l with
  | nil =>
    intro m fr σ w h e S
    cases emp_of h.1
    cases e
    exact k w S
  | cons i l ih =>
    intro m fr σ w h e S
    obtain ⟨fr₁, σ₁, e1, e2⟩ := execs_cut e
    exact ckSs_cons (C := fun m => wpAny X.M X.A (PySem.execs (m ++ rest) X.env) Q E w.s) h fun x xs h1 h2 => wpAny_execs_cons ((H i x fr σ h1 _ e1).3 w _ E trivial S fun w1 _ S1 f q => by cases q; exact ih h2 e2 S1)
noncomputable def clI (L nl : Addr) (tabs : List Tab) (base : Heap) (a : Addr) : Cl := if a = L then .fr else if a = nl then .ob 0 else if tabs.any (fun t => Nat.beq t.P a) then .tab else if (base.get? a).isSome then .kept else .non
end
end
end Mine
namespace Mine
open PySem PySem.W PyProof.Rows PySem.Calls
section
variable {X : Cx} {I : In} {c : CK} {N : Nat} {fr fr' : SFr} {σ σ' σ₁ σ₂ σ₃ : SS} {w w' : Wd} {V : Val} {ρ : Nat → Addr} {G : Gl} {P : PT}
section
variable {s s' : Shared} {m : PySem.Str → Option Value} {nl : Addr} {vs : List Value} {nn : Nat}
theorem nat_int {v : Value} (h : NatV v) : IntV v := let ⟨x, t, e, _⟩ := h; ⟨x, t, e⟩
theorem head_two {x : Int} (l : x = 0 ∨ x = 1) : ∃ b : Nat, An (x = (b : Int)) (An (b ≤ 1) (initB b = true)) := by
  rcases l with rfl | rfl
  · exact ⟨0, rfl, Nat.zero_le _, init0⟩
  · exact ⟨1, rfl, Nat.le_refl _, init1⟩
inductive Lf (X : Cx) (nl : Addr) (vs : List Value) (nn : Nat) (s : Shared) (m : PySem.Str → Option Value) : Prop | mk (ns : s.heap.Ns X.L m) (num : m (nm n_numbers) = some (.ref nl)) (hl : s.heap.get? nl = some (listOf (List.toArray vs) nn)) (bk : ∀ b o, X.base.get? b = some o → s.heap.get? b = some o) (bL : X.base.get? X.L = none) (bn : X.base.get? nl = none)
  (nlL : nl ≠ X.L) (ab : X.base.objs.size ≤ X.L) (ht : ∀ t ∈ X.tabs, s.heap.get? t.P = some (tabObj #[]) ∧ X.base.get? t.P = none ∧ t.P ≠ X.L ∧ t.P ≠ nl) (hg : s.gens = #[]) (ho : s.os = X.G.os)
theorem law_at (F : Lf X nl vs nn s m) (fs : Fs X) (hy : ∀ o, Hyp (X.G.fo o V) X.P) (lm : X.lm = none) (hd : X.hd = none) (ou : X.outer = []) (l2 : V.lst 2 = vs) {b : Nat} (hr : ∀ r ∈ rows0 b, RW V (fun _ => nl) 1 r) : At (X.fo X.G.pin V) ⟨[(n_numbers, .ref 0)], []⟩ ⟨[.alist 2], rows0 b⟩ ⟨X.base, fun _ => nl, s, clI X.L nl X.tabs X.base, m, m⟩ := by
  have hL : X.env.locals = X.L := fs.17 lm
  have cL : clI X.L nl X.tabs X.base X.L = .fr := if_pos rfl
  have cn : clI X.L nl X.tabs X.base nl = .ob 0 := (if_neg F.7).trans (if_pos rfl)
  have ne : ∀ {a : Addr} {o : Obj}, X.base.get? a = some o → a ≠ X.L ∧ a ≠ nl ∧ ¬ (X.tabs.any (fun t => Nat.beq t.P a)) = true := fun {a o} e => ⟨fun q => (by rw [q, F.5] at e; cases e), fun q => (by rw [q, F.6] at e; cases e), fun q => by
    obtain ⟨t, ht, q⟩ := List.any_eq_true.mp q
    cases Nat.eq_of_beq_eq_true q
    exact nomatch (F.9 t ht).2.1.symm.trans e⟩
  refine .mk (fun i so e => ?_) (fs.fo hy) (fun b o e => have q := ne e; ⟨F.4 b o e, (if_neg q.1).trans ((if_neg q.2.1).trans ((if_neg q.2.2).trans (if_pos (by rw [e]; rfl))))⟩) F.1 (hL.symm ▸ F.1) cL ((congrArg (clI X.L nl X.tabs X.base) hL).trans (cL.trans (by show _ = Cx.lc X; unfold Cx.lc; rw [lm])))
    (fun x v e => ?_) (fun x i e => nomatch e) (fun t ht => have q := F.9 t ht; ⟨.mk #[] q.1 trivial fun _ _ => .inl rfl, (if_neg q.2.2.1).trans ((if_neg q.2.2.2).trans (if_pos (List.any_eq_true.mpr ⟨t, ht, Nat.beq_refl _⟩)))⟩) F.10 F.11 (fun r q => hr r q) (fun e q => nomatch hd.symm.trans q) (fun m0 q => nomatch lm.symm.trans q) F.8 (fun b o e => e) (by show Heap.FunFrames _ _ X.outer; rw [ou]; trivial) (fun a ha => by have ha : a ∈ X.outer.filterMap (·.frame) := ha; rw [ou] at ha; cases ha) fun b hb => ?_
  · cases i with
    | zero => cases e; exact ⟨⟨_, F.3, ⟨nn, by show _ = listOf (V.lst 2).toArray nn; rw [l2]⟩, trivial⟩, cn, trivial⟩
    | succ i => cases e
  · have q := lk_all (p := fun x (v : SV) => An (x = n_numbers) (v = .ref 0)) (all_cons (a := (n_numbers, SV.ref 0)) ⟨rfl, rfl⟩ all_nil) e
    obtain ⟨rfl, rfl⟩ := id q
    exact ⟨Nat.zero_lt_one, _, F.2, rfl⟩
  · by_cases h1 : b = X.L
    · rw [h1]; exact ns_ex F.1
    by_cases h2 : b = nl
    · rw [h2]; exact ⟨_, F.3⟩
    by_cases h3 : X.tabs.any (fun t => Nat.beq t.P b) = true
    · obtain ⟨t, ht, q⟩ := List.any_eq_true.mp h3
      cases Nat.eq_of_beq_eq_true q
      exact ⟨_, (F.9 t ht).1⟩
    cases h4 : X.base.get? b with
    | some o => exact ⟨o, F.4 b o h4⟩
    | none => exact absurd ((if_neg h1).trans ((if_neg h2).trans ((if_neg h3).trans (if_neg (by rw [h4]; decide))))) hb
theorem law_rest (LW : Lw X.G X.P) (hP : X.P = prog) (hn : fu FU + 1 ≤ X.n) (ou : X.outer = []) (lm : X.lm = none) (hd : X.hd = none) (fs : Fs X) (EO : EnvOK lawC X) (fe : X.env = X.fenv) (F : Lf X nl vs nn s m) (hvs : ∀ v ∈ vs, NatV v) (h3 : 3 ≤ vs.length) (h17 : vs.length ≤ 17) {ss : List Stmt} (den : (ckSs (ckS prog 40) lawC lawIR ss).run = some [])
    {p p0 p1 p2 p3 p4 p5 p6 p7 p8 p9 p10 p11 q0 q1 q2 q3 q4 q5 q6 q7 q8 r0 r1 : Pos} {j0 j1 j2 j3 j4 j5 j6 : Nat} {r : List Stmt} {Q : Flow → Shared → Prop} {E : Value → Shared → Prop}
    (k : ∀ s' N T A Vw cs own m, Raw X N T A Vw cs own s'.heap s' m → Q (.ret (.bool true)) s') :
    wpAny X.M X.A (PySem.execs (ss ++ [.For (.Name (nm n_number) p0) (.BinOp (.Name (nm n_numbers) q0) .Add (.List [.Constant (.int 0) j0 q1, .Constant (.int 6) j1 q2, .Constant (.int 12) j2 q3, .Constant (.int 1) j3 q4, .Constant (.int 7) j4 q5, .Constant (.int 13) j5 q6] q7) q8)
      [.If (.BoolOp .Or [.UnaryOp .Not (.Call (.Name (nm n__law_one) p1) [.Name (nm n_world) p2, .Name (nm n_number) p3] [] p4) p5, .UnaryOp .Not (.Call (.Name (nm n__law_is_seen) p6) [.Name (nm n_world) p7] [] p8) p9] p10) r [] p11] [] p, .Return (some (.Constant (.bool true) j6 r0)) r1]) X.env) Q E s := by
  obtain ⟨v0, vs', rfl⟩ : ∃ v0 vs', vs = v0 :: vs' := match vs, h3 with | v :: vs, _ => ⟨v, vs, rfl⟩
  obtain ⟨x0, t0, hx0, _⟩ := hvs v0 (.head _)
  have rg := fmod_rg x0 (k := 2) (by decide)
  obtain ⟨b, hb, b1, hB⟩ := head_two (x := Int.fmod x0 2) (by omega)
  let V : Val := ⟨fun _ => x0, fun _ => "", fun _ => [(0, "")], fun j => if j = 2 then v0 :: vs' else []⟩
  have hV : VOK V := ⟨fun j => (show PyData.strOk (PySem.Str.ofString "") = true by decide +kernel), fun j => by
    show (if j = 2 then v0 :: vs' else []).length ≤ 1000
    split
    · omega
    · exact Nat.zero_le _⟩
  have l2 : V.lst 2 = v0 :: vs' := rfl
  cases initR hB with
  | mk fr' σ' e w nu o0 len len5 em nd =>
    have hy : ∀ o, Hyp (X.G.fo o V) X.P := fun o => LW.1 V hV o
    have S := law_at F fs hy lm hd ou l2 (b := b) (all_cons (a := Row.lget 2 (.int 0) (.sint 0)) ⟨.mk 0 v0 rfl (by decide) (by rw [l2]; rfl) ⟨t0, hx0⟩, trivial⟩ (all_cons (a := Row.iop 4 (.sint 0) (.int 2) (.int b)) (iopOK x0 2 b rfl rfl rfl (congrArg some hb) (by decide) (by decide) (by decide)) all_nil))
    refine execs_then (X := X.fo X.G.pin V) (I := run X.P FU) (c := lawC) (N := 40) ((allCs FU (X.fo X.G.pin V) hy (Nat.le_of_succ_le hn)).5 40 lawC ⟨EO.1, EO.2, EO.3, EO.4⟩ rfl fe) (fr' := fr') (σ' := σ') (fun w' S' => ?_) (by rw [← hP] at den; exact Fo.run_den den fun r hr => nomatch hr) (by show execs (run X.P FU) X.hd _ _ _ = _; rw [hP, hd]; exact e) S
    obtain ⟨Vw, cs, own, R, nil⟩ := init_raw S' lm hd fs hV (by omega) len len5 em nd
    have me : w'.me = w'.m := ns_unique ((fs.17 lm : X.env.locals = X.L) ▸ S'.5) S'.4
    have nmA : ∀ {x i}, lk fr'.loc x = some (.ref i) → w'.m (nm x) = some (.ref (w'.ρ i)) := fun {x i} q => by
      obtain ⟨_, y, ey, d⟩ := S'.8 x _ q
      exact me ▸ ey.trans (congrArg some (show y = .ref (w'.ρ i) from d))
    obtain ⟨o, eo, ⟨n2, d⟩, _⟩ := (S'.1 0 _ o0).1
    have M := law_names
    have sc : X.env.scope = lawScope := EO.1
    exact law_tail ⟨LW, hP, hn, Nat.le_add_left .., by omega, sc ▸ M.7, sc ▸ M.6, sc ▸ M.8, sc ▸ M.9, ou⟩ R nil (nmA w) (nmA nu) (eo.trans (congrArg some (d.trans (congrArg (fun l : List Value => listOf l.toArray n2) l2)))) (fun v hv => nat_int (hvs v hv)) h17 (sc ▸ M.5) fun s' T Vw cs own m R => k s' _ T _ Vw cs own m R
end
section
variable {s : Shared} {base : Heap} {tabs : List Tab}
theorem law_call (LW : Lw G prog) (gv : VOK G.V) {a : Addr} {fo : Obj} {pm cd doc : Value} (hfo : s.heap.get? a = some fo) (hfd : fo.data = .func (fnX "law" "law" lawArgs lawBody lawScope [] .none .none doc pm none cd .none)) (hcd : s.heap.CodeRec cd "law")
    (hb1 : ∀ b o, base.get? b = some o → s.heap.get? b = some o) (hb2 : base.objs.size = s.heap.objs.size) (K : G.K.In base) (Tg : base.Ns mainGlobals G.mg) (Tb : base.Ns builtinsNs G.mb) (lim : base.NoLimit) (sys : ∃ o, base.get? sysModules = some o) (T : TF G tabs base) (ht : ∀ t ∈ tabs, s.heap.get? t.P = some (tabObj #[]) ∧ base.get? t.P = none)
    (hg : s.gens = #[]) (ho : s.os = G.os) (g1 : G.mg "abs" = none) (b1 : G.mb "abs" = some (.builtin "abs")) (g2 : G.mg "max" = none) (b2 : G.mb "max" = some (.builtin "max")) (g3 : G.mg "len" = none) (b3 : G.mb "len" = some (.builtin "len"))
    {sa : Addr} {items : Array Value} (hl : s.heap.IsList sa items) (hi : ∀ v ∈ items, IntV v) (hsz : items.size ≤ 63) {R : Result → Shared → Prop}
    (k : ∀ s', s'.gens = #[] → s'.os = G.os → (∀ b o, base.get? b = some o → s'.heap.get? b = some o) → (∀ t ∈ tabs, TabOK s'.heap t) → R (.ok (.ret (.bool true))) s')
    {s2 s3 : Stmt} {p p0 p1 p2 p3 p4 p5 p6 p7 p8 p9 p10 p11 q0 q1 q2 q3 q4 q5 q6 q7 q8 r0 r1 a0 a1 a2 a3 a4 a5 a6 a7 a8 a9 d0 d1 d2 d3 d4 d5 d6 d7 d8 d9 e0 e1 e2 e3 e4 e5 e6 e7 e8 e9 : Pos} {k0 k1 k2 k3 k4 k5 k6 j1 j2 j3 j4 j5 j6 j7 j8 : Nat} {r : List Stmt} {csc : Scope} (hbody : lawBody = [
    .Assign [.Name (nm n_numbers) a0] (.BinOp (.ListComp (.BinOp (.Call (.Name "abs" a1) [.Name "number" a2] [] a3) .Mod (.BinOp (.Constant (.int 10) j1 a4) .Pow (.Constant (.int 6) j2 a5) a6) a7)
      [⟨.Name "number" a8, .Subscript (.Name (nm n_script) a9) (.Slice none (some (.Constant (.int 14) j3 d0)) none d1) d2, [], 0⟩] csc d3) .Add
      (.Subscript (.List [.Constant (.int 0) j4 d4, .Constant (.int 1) j5 d5, .Constant (.int 2) j6 d6] d7) (.Slice none (some (.Call (.Name "max" d8) [.Constant (.int 0) j7 d9, .BinOp (.Constant (.int 3) j8 e0) .Sub (.Call (.Name "len" e1) [.Name (nm n_script) e2] [] e3) e4] [] e5)) none e6) e7) e8) e9,
    s2, s3, .For (.Name (nm n_number) p0) (.BinOp (.Name (nm n_numbers) q0) .Add (.List [.Constant (.int 0) k0 q1, .Constant (.int 6) k1 q2, .Constant (.int 12) k2 q3, .Constant (.int 1) k3 q4, .Constant (.int 7) k4 q5, .Constant (.int 13) k5 q6] q7) q8)
    [.If (.BoolOp .Or [.UnaryOp .Not (.Call (.Name (nm n__law_one) p1) [.Name (nm n_world) p2, .Name (nm n_number) p3] [] p4) p5, .UnaryOp .Not (.Call (.Name (nm n__law_is_seen) p6) [.Name (nm n_world) p7] [] p8) p9] p10) r [] p11] [] p, .Return (some (.Constant (.bool true) k6 r0)) r1])
    (c1 : csc.kind = .function) (c2 : csc.names.lookup ("number" : PySem.Str) = some .local) (c3 : csc.names.lookup ("abs" : PySem.Str) = some .globalImplicit) (c4 : ∀ y ∈ csc.names, y.2 ≠ .free) (c5 : ∀ y ∈ csc.names, y.2 ≠ .cell) (c6 : ∀ y ∈ csc.names, y.2 = .local → csc.names.lookup y.1 = some .local) :
    codeAny (model G.prog G.w) callerA (.call (.ref a) ⟨[.ref sa], []⟩) R s := by
  obtain ⟨an, pa, hargs⟩ := law_args
  have M := law_names
  have nd1 : [n_script].Nodup := by decide
  have B := bindVM (kws := []) (df := []) nd1 [(n_script, .top sa)] (show Mine.bindArgs [] [] [n_script] [.top sa] = some [(n_script, .top sa)] by with_unfolding_all rfl)
  obtain ⟨binds, hbind, hrel⟩ := bind_rel (V := G.V) (ρ := fun _ => 0) (s := s) (fd := fnX "law" "law" lawArgs lawBody lawScope [] .none .none doc pm none cd .none) (kw := []) (items := []) (vs := [.ref sa]) (ps := [n_script]) hargs (show [("script" : PySem.Str)] = [nm n_script] by decide +kernel) (.inl ⟨rfl, rfl⟩) nd1 B (by with_unfolding_all rfl) (.cons rfl .nil) .nil rfl .nil (Nat.zero_le _)
  refine codeAny_call_function (by decide) hfo hfd M.2 M.3 rfl hcd (hbind _ _ _ _ ?_)
  refine wpAny_newFunctionEnv_cells M.1 (fun x hx => ?_) fun env' he s' x => ?_
  · obtain ⟨e, he, q⟩ := hrel.mem_r x hx
    rw [q.1]
    cases List.mem_singleton.mp he
    exact .inl M.4
  obtain ⟨h₁, tk, rfl, _⟩ := x.done
  have hkp : ∀ b o, s.heap.get? b = some o → h₁.get? b = some o := x.toInCall.keep
  have kb1 : ∀ b o, base.get? b = some o → h₁.get? b = some o := fun b o e => hkp b o (hb1 b o e)
  refine ⟨lim.keeps kb1, codeAny_func ?_⟩
  have e2' : env'.locals = s.heap.objs.size := by rw [he]; rfl
  have ef : env'.frame = some s.heap.objs.size := by rw [he]; rfl
  have es : env'.scope = lawScope := by rw [he]; rfl
  have kd : env'.scope.kind = .function := es ▸ M.1
  have gl : env'.globals = mainGlobals := by rw [he]; rfl
  have bl : env'.builtins = builtinsNs := by rw [he]; rfl
  have ek : ∀ z, env'.kindOf z = lawScope.names.lookup z := fun z => by rw [he]; rfl
  obtain ⟨ys, ey, dy⟩ := bound (z := n_script) hrel nd1 rfl
  have hscr := (bindL_eq _ ((ek _).trans M.4) : bindL env'.kindOf binds (fun _ => none) (nm n_script) = _).trans (by rw [ey]; rfl : _ = some ys)
  obtain rfl : ys = .ref sa := dy
  have F0 : Fr s.heap s.heap.objs.size h₁ (bindL env'.kindOf binds fun _ => none) := ⟨e2' ▸ x.toInCall.ns, hkp, Nat.le_refl _⟩
  have irs := law_irs
  rw [hbody] at irs ⊢
  have nk : ∀ {x : PySem.Str} {kd : NameKind}, lawScope.names.lookup x = some kd → env'.scope.names.lookup x = some kd := fun h => es ▸ h
  refine wpAny_execs_cons (stmt1 G (mg := G.mg) (mb := G.mb) F0 rfl kd e2' gl bl (Tg.keeps kb1) (Tb.keeps kb1) g1 b1 g2 b2 g3 b3 (nk M.4) (nk M.5) (nk M.10) (nk M.11) c1 c2 c3 c4 c5 c6 hscr (by obtain ⟨ob, e, r⟩ := hl; exact ⟨ob, hkp _ _ e, r⟩) hi hsz fun h2 tk2 nl nn vs kp2 hn2 hl2 nlnone nlL hvs h3 h17 => ?_)
  have sL : ∀ {b : Addr} {o : Obj}, s.heap.get? b = some o → b ≠ s.heap.objs.size := fun e => Nat.ne_of_lt (Heap.lt_size e)
  have bN : ∀ {b : Addr}, (∀ o, base.get? b ≠ some o) → base.get? b = none := fun {b} h => by
    cases e : base.get? b with
    | none => rfl
    | some o => exact absurd e (h o)
  let X : Cx := { G := G, P := prog, tabs := tabs, hd := none, n := 610, A := callerA.deeper env', env := env', L := s.heap.objs.size, base := base, fenv := env', outer := [], lm := none }
  have fs : Fs X := .mk (fun o => LW.1 G.V gv o) kd gl bl K Tg Tb lim sys (Around.frames_deeper rfl) ef kd ef T (by show 301 + 1 + 610 ≤ 950; decide) (by show 4 + 3 + 8 * 610 + 64 < 9900; decide) (fun _ => e2') fun _ => rfl
  have F : Lf X nl vs nn { s with heap := h2, toks := tk2 } _ := ⟨hn2, if_pos rfl, hl2, fun b o e => kp2 b o (kb1 b o e) (sL (hb1 b o e)), bN fun o e => sL (hb1 _ _ e) rfl, bN fun o e => (nomatch (show h₁.get? nl = none from nlnone).symm.trans (kb1 _ _ e)), nlL, Nat.le_of_eq hb2,
    fun t h => ⟨kp2 _ _ (hkp _ _ (ht t h).1) (sL (ht t h).1), (ht t h).2, sL (ht t h).1, fun q => (nomatch (show h₁.get? nl = none from nlnone).symm.trans ((congrArg h₁.get? q).symm.trans (hkp _ _ (ht t h).1)))⟩, hg, ho⟩
  exact law_rest (X := X) (ss := [s2, s3]) LW rfl (show fu FU + 1 ≤ 610 by decide) rfl rfl rfl fs ⟨es, (show env'.qual = _ by rw [he]; rfl), (fun a q => nomatch q), fun _ => ⟨e2', rfl⟩⟩ rfl F hvs h3 h17 irs fun s5 N T A Vw cs own m R => k s5 R.9 R.10 (fun b o e => (R.11 b o e).1) fun t h => (R.8 t h).1
end
end
end Mine
namespace Mine
open PySem PySem.W PyProof.Rows PySem.Calls
theorem goP_of {w : World} {os : OsState} {n : Nat} {s : SharedT} (h : goP pw w os n = some s) : topRun treeTable pw w (boot_heap w.params).objs.size ((boot_heap w.params).nsMap mainGlobals "__annotations__") n ⟨boot_heap w.params, #[], boot_drawn, boot_toks, os⟩ (topStub pw) = some s.abs := by
  rw [← s0_abs]; exact topRunT_of (fastT_of _ _ _ h)
theorem opens : opening pw = plainProg pw.main.scope.names := by kernel_rfl
theorem fence : ∀ s, fenceModules? pw s = some s := fun s => by kernel_rfl
theorem start_ok : ∀ P : Params, ((boot_heap P).isNs mainGlobals && (#[] : Array GenState).size == 0) = true := fun P => by kernel_rfl
theorem left {q : Program} {loose : List PySem.Str} {Xt : Shared → Bool} {α : Type} {Yf : Shared → α} {Ya : World → α} {n N : Nat} (hn : Nat.ble n N = true) (hN : Nat.ble 600 N = true)
    (h : ∀ (w : World) (os : OsState), (goP pw w os n).map (fun sT => (staticsOk (importedModules pw.main.body) (boot_heap w.params) sT.abs.heap && namesBound pw sT.abs.heap && gensDone sT.abs && laidKept (boot_heap w.params) sT.abs.heap, openSeen q loose (importedModules pw.main.body) Xt true sT.abs, Yf sT.abs)) = some (true, openGood q loose, Ya w)) :
    LeftO pw q loose Xt Yf Ya N := fun w => by
  obtain ⟨⟨hp, gs, d, k, os⟩, e, e'⟩ := Option.map_eq_some_iff.mp (boot_open opens hN fence w)
  obtain ⟨rfl, rfl, rfl, rfl⟩ : hp = boot_heap w.params ∧ gs = #[] ∧ d = boot_drawn ∧ k = boot_toks := by simpa using e'
  obtain ⟨sT, h1, h2⟩ := Option.map_eq_some_iff.mp (h w os)
  obtain ⟨l1, l2⟩ := Prod.mk.inj h2
  have r := topRun_mono (N - n) _ _ _ _ (goP_of h1)
  rw [show n + (N - n) = N by have := Nat.le_of_ble_eq_true hn; omega] at r
  have t : topFrom treeTable pw w N ⟨boot_heap w.params, #[], boot_drawn, boot_toks, os⟩ = some sT.abs := by
    unfold topFrom
    dsimp only
    rw [start_ok w.params, r]
    show (match staticsOk (importedModules pw.main.body) (boot_heap w.params) sT.abs.heap && namesBound pw sT.abs.heap && gensDone sT.abs && laidKept (boot_heap w.params) sT.abs.heap with | true => _ | false => _) = _
    rw [l1]
  unfold openEnds
  rw [e]
  show (topFrom treeTable pw w N _).map _ = _
  rw [t]
  exact congrArg some l2
noncomputable def XB (mg : PySem.Str → Option Value) (h : Heap) : Prop := ∃ mb K l h₁, Bs prog mg mb K l h₁ h
noncomputable def Xt2 (s : Shared) : Bool := c1B prog (kS s) s && (XtT prog (kS s) s && (metB prog (kS s) (prog.funs.take 38) && (metB prog (kS s) (prog.funs.drop 38) && (prog.classes.drop 3).all (okC (kS s)))))
theorem all_two {α : Type} {p : α → Bool} {l : List α} {n : Nat} (a : (l.take n).all p = true) (b : (l.drop n).all p = true) : l.all p = true := by
  have q := List.all_append.trans (Bool.and_eq_true_iff.mpr ⟨a, b⟩)
  rwa [List.take_append_drop] at q
theorem xp_of (s : Shared) (e : Xt2 s = true) : XB (s.heap.nsMap mainGlobals) s.heap := by
  have e1 := an_bool e
  have e2 := an_bool e1.2
  have e3 := an_bool e2.2
  have e4 := an_bool e3.2
  have c1 := an_bool e1.1
  have c2 := an_bool c1.2
  have c3 := an_bool c2.2
  have m : metB prog (kS s) prog.funs = true := all_two e3.1 e4.1
  exact ⟨s.heap.nsMap builtinsNs, kS s, _, s.heap, ⟨kOf_in, .of_isNs c3.2, ⟨_, .of_isNs c3.1⟩, Fo.ok_run (metB_ok m), e2.1, Bool.and_eq_true_iff.mpr ⟨all_two c1.1 e4.2, c2.1⟩, fun _ _ e => e⟩⟩
theorem xp_keeps (mg : PySem.Str → Option Value) (h h' : Heap) (x : XB mg h) (k : ∀ b o, h.get? b = some o → h'.get? b = some o) : XB mg h' :=
  let ⟨mb, K, l, h₁, B⟩ := x
  ⟨mb, K, l, h₁, ⟨fun a o e => k a o (B.1 a o e), B.2.keeps k, let ⟨m, x⟩ := B.3; ⟨m, x.keeps k⟩, B.4, B.5, B.6, fun b o e => k b o (B.7 b o e)⟩⟩
theorem seen_same {q : Program} {loose mods : List PySem.Str} {X1 X2 : Shared → Bool} {g : Bool} {s : Shared} (h : X1 s = X2 s) : openSeen q loose mods X1 g s = openSeen q loose mods X2 g s := by
  unfold openSeen
  rw [h]
theorem look_of {w : World} {os : OsState} {n : Nat} (h1 : look1 pw qv loose (importedModules pw.main.body) prog w os n = some (true, openGood qv loose, ())) (h2 : look2 pw prog w os n = some true) (h3 : look3 pw prog (prog.funs.take 38) [] w os n = some true) (h4 : look3 pw prog (prog.funs.drop 38) (prog.classes.drop 3) w os n = some true) :
    (goP pw w os n).map (fun sT => (staticsOk (importedModules pw.main.body) (boot_heap w.params) sT.abs.heap && namesBound pw sT.abs.heap && gensDone sT.abs && laidKept (boot_heap w.params) sT.abs.heap, openSeen qv loose (importedModules pw.main.body) Xt2 true sT.abs, ())) = some (true, openGood qv loose, ()) := by
  unfold look1 at h1
  unfold look2 at h2
  unfold look3 at h3 h4
  cases e : goP pw w os n with
  | none => rw [e] at h2; cases h2
  | some sT =>
    rw [e] at h1 h2 h3 h4
    have x : Xt2 sT.abs = c1B prog (kT sT.tree) sT.abs := by
      have e2 := an_bool (Option.some.inj h2)
      have e3 := an_bool (Option.some.inj h3)
      have e4 : (metB prog (kT sT.tree) (prog.funs.drop 38) && (prog.classes.drop 3).all (okC (kT sT.tree))) = true := Option.some.inj h4
      unfold Xt2
      rw [show kS sT.abs = kT sT.tree from kT_of e2.1, e2.2, e3.1, e4]
      exact Bool.and_true _
    refine Eq.trans ?_ h1
    show some (_, openSeen qv loose (importedModules pw.main.body) Xt2 true sT.abs, ()) = some (_, openSeen qv loose (importedModules pw.main.body) (c1B prog (kT sT.tree)) true sT.abs, ())
    rw [seen_same x]
theorem ns_hide {h : Heap} {l : List Addr} {a : Addr} {m : PySem.Str → Option Value} (x : h.Ns a m) (hl : ∀ P ∈ l, h.get? P = some (tabObj #[])) : (hideAll h l).Ns a m := by
  obtain ⟨o, es, ep, e, d, r⟩ := x
  refine ⟨o, es, ep, hideAll_get _ e fun q => ?_, d, r⟩
  rw [hl a q] at e; cases e; cases d
theorem ints_of {R : WRecords} {cl : PySem.Str → Option Addr} {h : Heap} {ns : List Int} : ∀ {vs : List Value} {as : List Addr}, ReadsAllW R cl h vs (ns.map .int) as → ∀ v ∈ vs, IntV v := by
  induction ns with
  | nil => intro vs as r v hv; cases r; cases hv
  | cons n ns ih =>
    intro vs as r v hv
    cases r with
    | cons r rs => exact (List.mem_cons.mp hv).elim (fun e => let ⟨t, q, _⟩ := readsW_int_inv r; ⟨n, t, e.trans q⟩) (ih rs v)
noncomputable def V0 : Val := ⟨fun _ => 0, fun _ => "", fun _ => [], fun _ => []⟩
theorem v0_ok : VOK V0 := ⟨fun j => (show PyData.strOk (PySem.Str.ofString "") = true by decide +kernel), fun _ => Nat.zero_le _⟩
noncomputable def GG (w : World) (os : OsState) (mg mb : PySem.Str → Option Value) (K : Frag) (l : List Rq) : Gl :=
  { prog := pw, w := w, V := V0, code := codeOf l, pm := (mg "__name__").getD .none, os := os, K := K, mg := mg, mb := mb, tabOf := lk (tabL K l), pin := default }
theorem gg_law {w : World} {os : OsState} {mg mb : PySem.Str → Option Value} {K : Frag} {l : List Rq} {h₁ h : Heap} (B : Bs prog mg mb K l h₁ h) : Lw (GG w os mg mb K l) prog :=
  ⟨fun V hV o => bs_hyp (G := (GG w os mg mb K l).fo o V) B rfl rfl hV.1 hV.2, fun a F e => have q := bs_fun (G := GG w os mg mb K l) B rfl rfl a F e; ⟨q.1, let ⟨D, x⟩ := q.2; ⟨D, fun V _ o => x _ rfl rfl rfl rfl rfl⟩⟩⟩
noncomputable def dLaw : DefRec := match pw.main.body.getLast? with | some (.FunctionDef n ar b _ _ _ sc _ _ p) => ⟨n, ar, b, sc, p⟩ | _ => ⟨"", lawArgs, [], lawScope, ⟨0, 0, 0, 0⟩⟩
theorem d_law : dLaw = ⟨"law", lawArgs, lawBody, lawScope, dLaw.pos⟩ := by rfl
theorem law_dflt : lawArgs.defaults = [] := rfl
theorem pre63 {xs : List WData} (h : PySem.Challenge.rw_ac0033_01.row.pre.holds [] { args := [.list xs] } = true) : xs.length ≤ 63 := by
  have hcond' := condW_of h (by
    show WTm.value [] (.and (.not (.lt (.lit (.int 63)) (.len (.arg 0)))) (.lit (.bool true))) _ = _
    wtm_val)
  simp at hcond'
  omega
theorem post_ok (xs : List WData) : PySem.Challenge.rw_ac0033_01.row.toRowW.claim.post [.list xs] (.bool true) [.list xs] = true :=
  postW_of (r := PySem.Challenge.rw_ac0033_01.row.toRowW) (by decide +kernel) (by
    show WTm.value [] (.eq .res (.lit (.bool true))) _ = _
    wtm_val) (by decide +kernel)
theorem blt_of {mg mb : PySem.Str → Option Value} {x : String} (h : bltB mg mb x = true) : An (mg x = none) (mb x = some (.builtin x)) := have q := an_bool h; ⟨of_decide_eq_true q.1, of_decide_eq_true q.2⟩
theorem bs_hd {mg mb : PySem.Str → Option Value} {K : Frag} {l : List Rq} {h₁ h base : Heap} (B : Bs prog mg mb K l h₁ h) (X : K.In base) : ∀ t ∈ (tabL K l).map (·.2), ∃ c, CodeHd base c t.P := fun t ht => by
  have b8 := an_bool (an_bool (an_bool (an_bool (an_bool (an_bool (an_bool (an_bool B.5).2).2).2).2).2).2).2
  obtain ⟨e, he, q⟩ := List.mem_map.mp ht
  cases q
  exact ⟨e.1, any_of (an_bool (List.all_eq_true.mp b8.1 e he)).1 fun o eo b => hd_of (X _ _ eo) b⟩
theorem walk {q : Program} {loose : List PySem.Str} : WalkO q loose XB (fun _ _ => True) PySem.Challenge.rw_ac0033_01.row.toRowW dLaw [] fun f vs => PySem.call f vs := by
  intro w s₀ s₁ mg mb₀ G _ a o pm cd doc dV kV ho hd hcd hD hmg hg args vals as hpre hlay hrd hwl hlo
  obtain ⟨mb, K, l, h₁, B⟩ := G.X
  have T := G.T
  rw [d_law] at hd hcd hD
  obtain rfl : dV = .none := hD.pos.elim (·.2) fun y => absurd law_dflt y.1
  obtain rfl : kV = .none := hD.kw.elim (·.2) fun y => absurd rfl y.1
  obtain ⟨hsh, hp⟩ := pre_splitW hpre
  obtain ⟨d, r, rfl, h1, h2⟩ := hasAllW_cons hsh
  cases hasAllW_nil h2
  obtain ⟨xs, rfl, hit⟩ := hasW_list (e := .int) h1
  obtain ⟨ns, rfl⟩ := items_int hit
  cases hrd with | cons rd rest => ?_
  cases rest
  obtain ⟨sa, items, as', rfl, hl, ri, rfl⟩ := readsW_list_inv rd
  have hsz : items.size ≤ 63 := by rw [← Array.length_toList, ri.length]; exact pre63 hp
  have bb := an_bool (an_bool (an_bool (an_bool (an_bool (an_bool (an_bool (an_bool (an_bool B.5).2).2).2).2).2).2).2).2
  have bl := an_bool bb.2
  have bl2 := an_bool bl.2
  have ba := blt_of bl.1
  have bm := blt_of bl2.1
  have bn := blt_of bl2.2
  let tabs := (tabL K l).map (·.2)
  have tabs1 : ∀ t ∈ tabs, s₁.heap.get? t.P = some (tabObj #[]) ∧ K.lookup t.P = none := bs_tabs B
  have tabsP : ∀ P ∈ tabs.map (·.P), s₁.heap.get? P = some (tabObj #[]) := fun P hP => by
    obtain ⟨t, ht, rfl⟩ := List.mem_map.mp hP
    exact (tabs1 t ht).1
  generalize hbase : hideAll s₁.heap (tabs.map (·.P)) = base
  have hb1 : ∀ c o, base.get? c = some o → s₁.heap.get? c = some o := fun c o e => of_hideAll _ (by rw [hbase]; exact e)
  have hns : ∀ {a m}, s₁.heap.Ns a m → base.Ns a m := fun x => by rw [← hbase]; exact ns_hide x tabsP
  have X : K.In base := fun c o e => by
    rw [← hbase]
    refine hideAll_get _ (B.1 c o e) fun q => ?_
    obtain ⟨t, ht, rfl⟩ := List.mem_map.mp q
    exact nomatch (tabs1 t ht).2.symm.trans e
  have tf : TF (GG w s₁.os mg mb K l) tabs base := bs_tf (G := GG w s₁.os mg mb K l) B rfl X rfl
  refine enter_call ?_
  refine law_call (G := GG w s₁.os mg mb K l) (tabs := tabs) (gg_law B) v0_ok ho hd hcd hb1 (by rw [← hbase]; exact hideAll_size _ _) X (hns T.g) (hns B.2) (T.nolimit.elim fun mc h => ⟨mc, hns h.1, h.2⟩) (B.3.elim fun m h => let ⟨o, _, _, e, _⟩ := hns h; ⟨o, e⟩) tf (fun t ht => ⟨(tabs1 t ht).1, by rw [← hbase]; exact hideAll_none _ (List.mem_map_of_mem ht)⟩) hg rfl ba.1 ba.2 bm.1 bm.2 bn.1 bn.2 hl (fun v hv => ints_of ri v (Array.mem_toList_iff.mpr hv)) hsz (fun s' k1 k2 k3 k4 => ?_) rfl (by decide +kernel) (by decide +kernel) (by decide +kernel) (by decide +kernel) (by decide +kernel) (by decide +kernel)
  refine ⟨.inl ⟨.bool true, .bool true, [], rfl, fun _ => rfl, .bool true, post_ok _, fun _ => ⟨List.nodup_nil, fun a ha => nomatch ha⟩⟩, ⟨fun c o e => ?_, fun c o e => ?_⟩, k2, ?_⟩
  · by_cases hc : c ∈ tabs.map (·.P)
    · obtain ⟨t, ht, rfl⟩ := List.mem_map.mp hc
      cases k4 t ht with
      | mk ps e' _ _ =>
        rw [(tabs1 t ht).1] at e
        cases e
        obtain ⟨c', ob, vs, _, _, _, _, _, _, _, q1, q2, q3, q4, _⟩ := bs_hd B X t ht
        exact .inr (.inl ⟨⟨c', ob, vs, hb1 _ _ q1, q2, q3, q4⟩, rfl, #[], ps, rfl, by rw [e', Array.empty_append]⟩)
    · exact .inl (k3 _ _ (by rw [← hbase]; exact hideAll_get _ e hc))
  · by_cases hc : c ∈ tabs.map (·.P)
    · obtain ⟨t, ht, rfl⟩ := List.mem_map.mp hc
      cases k4 t ht with | mk ps e' _ _ => exact ⟨_, e'⟩
    · exact ⟨_, k3 _ _ (by rw [← hbase]; exact hideAll_get _ e hc)⟩
  · rw [k1]; exact fun g hg => nomatch hg
theorem seen1 (w : World) (os : OsState) : (goP pw w os 8500).map (fun sT => (staticsOk (importedModules pw.main.body) (boot_heap w.params) sT.abs.heap && namesBound pw sT.abs.heap && gensDone sT.abs && laidKept (boot_heap w.params) sT.abs.heap, openSeen qv loose (importedModules pw.main.body) Xt2 true sT.abs, ())) = some (true, openGood qv loose, ()) := by
  refine look_of ?_ ?_ ?_ ?_
  · rw [PySem.W.Fast.te18309523048354253811]; exact t1 w os
  · rw [PySem.W.Fast.te2328526617337647392]; exact t2 w os
  · rw [PySem.W.Fast.te413877350127670083]; exact t3 w os
  · rw [PySem.W.Fast.te413877350127670083]; exact t4 w os
theorem hdef1 : defOf qv PySem.Challenge.rw_ac0033_01.row.name = some (dLaw, []) := by rfl
theorem hthe1 : PySem.Challenge.rw_ac0033_01.row.prog.theDef PySem.Challenge.rw_ac0033_01.row.name = some (dLaw.params, dLaw.body, dLaw.scope) := by rfl
theorem hkw1 : kwWritten? dLaw.params.kwonlyargs dLaw.params.kw_defaults = some [] := by rfl
set_option maxHeartbeats 8000000 in
theorem law_holds : PySem.Challenge.rw_ac0033_01.Holds := by
  w_on
  refine holds_law said1 fun said => ?_
  refine PySem.W.holds_open (r := PySem.Challenge.rw_ac0033_01.row) (q := qv) (loose := loose) (Xt := Xt2) (XP := XB) (Yf := fun _ => ()) (Ya := fun _ => ()) (YP := fun _ _ => True) (N := 8500) (d := dLaw) (kwd := []) (left (n := 8500) rfl rfl fun w os => seen1 w os) (fun _ _ _ => trivial) (fun _ _ _ _ _ => trivial) xp_of xp_keeps hdef1 hthe1 hkw1 (fun s _ => recFacts_of (by rfl)) (by rfl) (by assumption) (by decide +kernel) ⟨rfl, rfl, rfl, rfl, rfl, by decide +kernel⟩ ?_ walk
  w_witness2
end Mine
theorem PySem.Challenge.cw_ac0033_01_holds : PySem.Challenge.rw_ac0033_01.Holds :=
  Mine.law_holds
