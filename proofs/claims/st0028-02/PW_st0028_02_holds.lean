import PyProof.Rows.All
import PyProof.EnumFor
import PyProof.ListStr
import ObjForm.Fk.ObjNew
import ObjForm.Fk.InstLoad
import OpenK.KDescr
import KE.KItem
import KE.KDictIter
import Wide.FinOn
import OpenK.AllK
import Wide.All
import Lean
import PySem.Challenge.RW_st0028_02
set_option genSizeOf false
set_option genInjectivity false
set_option compiler.extract_closed false
set_option bootstrap.genMatcherCode false
open PySem PySem.W PySem.Calls PyProof.Rows
set_option Elab.async false
set_option maxRecDepth 100000
set_option maxHeartbeats 4000000
namespace Mine
noncomputable abbrev pr := PySem.Challenge.pw_st0028_02
noncomputable def stAt (p : Program) (i : Nat) : Stmt := (p.main.body[i]?).getD (.Pass ⟨0, 0, 0, 0⟩)
noncomputable def fName : Stmt → Str
  | .FunctionDef n .. => n
  | _ => Str.empty
noncomputable def fArgs : Stmt → Arguments
  | .FunctionDef _ a .. => a
  | _ => ⟨[], [], none, [], [], none, []⟩
noncomputable def fBody : Stmt → List Stmt
  | .FunctionDef _ _ b .. => b
  | _ => []
noncomputable def fScope : Stmt → Scope
  | .FunctionDef _ _ _ _ _ _ s .. => s
  | _ => default
noncomputable def clsBody : Stmt → List Stmt
  | .ClassDef _ _ _ b .. => b
  | _ => []
noncomputable def bCls : Stmt := stAt pr 56
noncomputable def bMeth (i : Nat) : Stmt := ((clsBody bCls)[i]?).getD (.Pass ⟨0, 0, 0, 0⟩)
noncomputable def bInit : Stmt := bMeth 0
noncomputable def bRead : Stmt := bMeth 1
noncomputable def bGet : Stmt := bMeth 2
noncomputable def bPush : Stmt := bMeth 3
noncomputable abbrev IESC : Nat := 59
noncomputable def bAnswers : Stmt := stAt pr 67

noncomputable def bEsc0 : Stmt := stAt pr (IESC + 0)
noncomputable def bEsc1 : Stmt := stAt pr (IESC + 1)
noncomputable def bEsc2 : Stmt := stAt pr (IESC + 2)
noncomputable def bEsc3 : Stmt := stAt pr (IESC + 3)
noncomputable def bEsc4 : Stmt := stAt pr (IESC + 4)
noncomputable def bWritten : Stmt := stAt pr 66
noncomputable def bPage : Stmt := stAt pr 68
noncomputable def bSymbols : Stmt := stAt pr 69
noncomputable def tokTab : List (Str × Int) := [((Str.ofString "!"), 54), ((Str.ofString "!="), 28), ((Str.ofString "%"), 24), ((Str.ofString "%="), 40), ((Str.ofString "&"), 19), ((Str.ofString "&="), 41), ((Str.ofString "("), 7), ((Str.ofString ")"), 8), ((Str.ofString "*"), 16), ((Str.ofString "**"), 35), ((Str.ofString "**="), 46), ((Str.ofString "*="), 38), ((Str.ofString "+"), 14), ((Str.ofString "+="), 36), ((Str.ofString ","), 12), ((Str.ofString "-"), 15), ((Str.ofString "-="), 37), ((Str.ofString "->"), 51), ((Str.ofString "."), 23), ((Str.ofString "..."), 52), ((Str.ofString "/"), 17), ((Str.ofString "//"), 47), ((Str.ofString "//="), 48), ((Str.ofString "/="), 39), ((Str.ofString ":"), 11), ((Str.ofString ":="), 53), ((Str.ofString ";"), 13), ((Str.ofString "<"), 20), ((Str.ofString "<<"), 33), ((Str.ofString "<<="), 44), ((Str.ofString "<="), 29), ((Str.ofString "="), 22), ((Str.ofString "=="), 27), ((Str.ofString ">"), 21), ((Str.ofString ">="), 30), ((Str.ofString ">>"), 34), ((Str.ofString ">>="), 45), ((Str.ofString "@"), 49), ((Str.ofString "@="), 50), ((Str.ofString "["), 9), ((Str.ofString "]"), 10), ((Str.ofString "^"), 32), ((Str.ofString "^="), 43), ((Str.ofString "{"), 25), ((Str.ofString "|"), 18), ((Str.ofString "|="), 42), ((Str.ofString "}"), 26), ((Str.ofString "~"), 31)]
noncomputable def bSteps : Stmt := stAt pr 71
noncomputable def bLx : Stmt := stAt pr 65
noncomputable def bTer : Stmt := stAt pr 52
noncomputable def bNon : Stmt := stAt pr 53
noncomputable def bEof : Stmt := stAt pr 54
noncomputable def bRd : Stmt := stAt pr 70
noncomputable def bLaw : Stmt := stAt pr 72
section
open PySem.W.X
theorem saidL : PySem.Challenge.rw_st0028_02.wellSaid = true := by
  delta OpenLaw.wellSaid OpenRow.wellSaid OpenRow.partSaid looksOpen
  with_reducible repeat' refine look_both ?_ ?_
  all_goals decide +kernel
noncomputable def qv : Program := { pr with main := { pr.main with body := pr.main.body.drop 72 } }
noncomputable abbrev looseN : List Str := pr.boundNames
noncomputable abbrev FnV := Value × Str × Str × Arguments × FuncBody × Scope × Addr × List (Str × Addr) × Value × Value × Option Addr × Value × Addr
noncomputable def seeF (h : Heap) (f : Addr) : Option FnV := match h.get? f with
  | some ⟨oc, _, .func fd, _⟩ => some (oc, fd.name, fd.qualname, fd.params, fd.body, fd.scope, fd.globals, fd.closure, fd.defaults, fd.kwdefaults, fd.annotations, fd.code, fd.builtins)
  | _ => none
noncomputable def fnV (st : Stmt) (qual : Str) (c : Addr) : FnV := (.type "function", fName st, qual, fArgs st, .stmts (fBody st), fScope st, mainGlobals, [], .none, .none, none, .ref c, builtinsNs)
noncomputable def fnList : List (Addr × Str × Stmt) := [(24, "ISTERMINAL", bTer), (31, "ISNONTERMINAL", bNon), (38, "ISEOF", bEof), (52, "_netrclex.__init__", bInit), (59, "_netrclex._read_char", bRead), (66, "_netrclex.get_token", bGet), (73, "_netrclex.push_token", bPush),
  (94, "_escape_cdata", bEsc0), (101, "_escape_attrib", bEsc1), (108, "_escape_attrib_html", bEsc2), (115, "_escape_cdata_c14n", bEsc3), (122, "_escape_attrib_c14n", bEsc4),
  (129, "_law_lexer", bLx), (136, "_law_written", bWritten), (143, "_law_answers", bAnswers), (148, "_law_page", bPage), (155, "_law_symbols", bSymbols), (160, "_law_read", bRd), (165, "_law_steps", bSteps), (170, "law", bLaw)]
noncomputable def gNames : List (Str × Option Value) := [("ISTERMINAL", some (.ref 24)), ("ISNONTERMINAL", some (.ref 31)), ("ISEOF", some (.ref 38)), ("_netrclex", some (.ref 76)), ("_escape_cdata", some (.ref 94)), ("_escape_attrib", some (.ref 101)), ("_escape_attrib_html", some (.ref 108)), ("_escape_cdata_c14n", some (.ref 115)), ("_escape_attrib_c14n", some (.ref 122)),
  ("_law_lexer", some (.ref 129)), ("_law_written", some (.ref 136)), ("_law_answers", some (.ref 143)), ("_law_page", some (.ref 148)), ("_law_symbols", some (.ref 155)), ("_law_read", some (.ref 160)), ("_law_steps", some (.ref 165)), ("law", some (.ref 170)), ("EXACT_TOKEN_TYPES", some (.ref 15)), ("__builtins__", some (.ref 4)),
  ("iter", none), ("len", none), ("sum", none), ("list", none), ("range", none), ("enumerate", none), ("max", none)]
noncomputable def bNames : List (Str × Option Value) := [("iter", some (.builtin "iter")), ("len", some (.builtin "len")), ("sum", some (.builtin "sum")), ("list", some (.type "list")), ("range", some (.type "range")), ("enumerate", some (.type "enumerate")), ("max", some (.builtin "max"))]
noncomputable def cNames : List (Str × Option Value) := [("__init__", some (.ref 52)), ("_read_char", some (.ref 59)), ("get_token", some (.ref 66)), ("push_token", some (.ref 73)), ("__getattribute__", none), ("__getattr__", none), ("__setattr__", none), ("lineno", none), ("instream", none), ("whitespace", none), ("pushback", none), ("read", none)]
noncomputable def asInt : Option Value → Option Int
  | some (.int i _) => some i
  | _ => none
noncomputable def seeTab (h : Heap) (a : Addr) : Option (Value × Option Addr × Nat × List (Str × Int × Int)) := match h.get? a with
  | some ⟨oc, od, .dict es n, sl⟩ => if sl.size = 0 then (es.toList.mapM fun (e : DictEntry) => match e.key, e.val with | .str k _, .int i _ => some (k, i, e.hash) | _, _ => none).map fun l => (oc, od, n, l) else none
  | _ => none
noncomputable def isI : Value → Bool
  | .int _ _ => true
  | _ => false
noncomputable def isB : Value → Bool
  | .bool _ => true
  | _ => false
noncomputable def isS : Value → Bool
  | .str _ _ => true
  | _ => false
noncomputable def seeCd (h : Heap) (c : Addr) : Option (Value × Option Value × Value × Bool) := match h.get? c with
  | some ⟨oc, _, .fields vs, _⟩ => some (oc, vs[11]?, vs.getD 11 .none, isI (vs.getD 7 .none) && isB (vs.getD 9 .none) && isI (vs.getD 10 .none) && isS (vs.getD 18 .none))
  | _ => none
noncomputable def seeC (h : Heap) (c : Addr) : Option (Value × List Value × Addr × Bool × Bool × Bool × Nat × Option (Option Value)) := match h.get? c with
  | some ⟨oc, _, .cls cd, sl⟩ => some (oc, cd.mro, cd.ns, cd.hasDict, cd.abstract, cd.hasDel, sl.size, sl[4]?)
  | _ => none
noncomputable def plainAt0 (h : Heap) (a : Addr) : Option (Value × Option Addr) := match h.get? a with
  | some ⟨oc, od, .plain, _⟩ => some (oc, od)
  | _ => none
noncomputable def tab0 (h : Heap) (a : Addr) : Option (Value × Option Addr × List Value × Nat) := match h.get? a with
  | some ⟨oc, od, .fields vs, sl⟩ => some (oc, od, vs.toList, sl.size)
  | _ => none
noncomputable abbrev ObsT := Nat × Nat × List (Option Value) × List (Option Value) × List (Option Value) × List (Option Int) × List Bool × Option Value × List (Option FnV) × List Bool × Option (Value × List Value × Addr × Bool × Bool × Bool × Nat × Option (Option Value)) × Option (Value × Option Value × Value × Bool) × Option (Value × Option Addr) × Option (Value × Option Addr × List Value × Nat) × Option (Value × Option Addr × Nat × List (Str × Int × Int))
noncomputable def obsL (s : Shared) : ObsT :=
  (s.heap.objs.size, s.toks, gNames.map (fun p => s.heap.nsMap mainGlobals p.1), bNames.map (fun p => s.heap.nsMap builtinsNs p.1), cNames.map (fun p => s.heap.nsMap 75 p.1), [asInt (s.heap.nsMap mainGlobals "NT_OFFSET"), asInt (s.heap.nsMap mainGlobals "ENDMARKER")],
   [s.heap.isNs mainGlobals, s.heap.isNs builtinsNs, s.heap.isNs 75, s.heap.isNs cStatics], s.heap.nsMap cStatics "sys.recursionlimit", fnList.map (fun p => seeF s.heap p.1), fnList.map (fun p => s.heap.codeRecOk (.ref (p.1 - 1)) p.2.1), seeC s.heap 76, seeCd s.heap 128, plainAt0 s.heap 4, tab0 s.heap 124, seeTab s.heap 15)
noncomputable def valL (w : World) : ObsT :=
  (171, 578, gNames.map (·.2), bNames.map (·.2), cNames.map (·.2), [some 256, some 0], [true, true, true, true], none, fnList.map (fun p => some (fnV p.2.2 p.2.1 (p.1 - 1))), fnList.map (fun _ => true), some (.type "type", [.ref 76, .type "object"], 75, true, false, false, 6, some (some (.builtin "object.__new__"))),
   some (.type "code", some (.ref 124), .ref 124, true), some (.type "module", some builtinsNs), some (.none, none, [], 0), some (.type "dict", none, 48, tokTab.map fun e => (e.1, e.2, hashStr w e.1)))
noncomputable abbrev XtL (s : Shared) : Bool := xlAt qv [] s && recOk [] s
noncomputable abbrev LeftP (w : World) : Prop := (openEnds treeTable pr w 4688).map (fun s => (openSeen qv looseN (importedModules pr.main.body) XtL true s, obsL s)) = some (openGood qv looseN, valL w)
theorem leftF (w : World) : LeftP (w.withFollow "special-get-raises" false) := by
  unfold LeftP openEnds fencedOpening topFrom
  rw [PySem.W.Fast.te10274390034422433532, PySem.W.Fast.te14082659384304107361, PySem.W.Fast.te14364793385576792824, PySem.W.Fast.te14289696077712309145, PySem.W.Fast.te4187177175401517315]
  kernel_rfl
theorem leftT (w : World) : LeftP (w.withFollow "special-get-raises" true) := by
  unfold LeftP openEnds fencedOpening topFrom
  rw [PySem.W.Fast.te10274390034422433532, PySem.W.Fast.te14082659384304107361, PySem.W.Fast.te14364793385576792824, PySem.W.Fast.te14289696077712309145, PySem.W.Fast.te4187177175401517315]
  kernel_rfl
theorem leftL : LeftO pr qv looseN XtL obsL valL 4688 := fun w => byRow2 "special-get-raises" (P := LeftP) leftF leftT w

end

inductive MV where
  | undef | none | bool (b : Bool) | int (i : Int) | str (s : Str)
  | obj (v : Value) | mu (k : Nat)
  | list (xs : List MV) | tup (xs : List MV)
  | dictS (es : List (Str × MV)) | dictI (es : List (Int × MV))
  | rng (a b : Int)

noncomputable abbrev Frz := Addr → Option Obj
noncomputable abbrev listO (vs : List Value) (n : Nat) : Obj := { cls := .type "list", data := .seq vs.toArray n }
noncomputable abbrev tupO (vs : List Value) (n : Nat) : Obj := { cls := .type "tuple", data := .seq vs.toArray n }

noncomputable def Sub (F F' : Frz) : Prop := ∀ b o, F b = some o → F' b = some o
theorem Sub.refl (F : Frz) : Sub F F := fun _ _ e => e
inductive VR (w : World) (F : Frz) (ρ : Nat → Option Addr) : MV → Value → Prop
  | none : VR w F ρ .none .none
  | bool (b : Bool) : VR w F ρ (.bool b) (.bool b)
  | int (i : Int) (t : Tok) : VR w F ρ (.int i) (.int i t)
  | str (s : Str) (t : Tok) : VR w F ρ (.str s) (.str s t)
  | obj (v : Value) : VR w F ρ (.obj v) v
  | mu (k : Nat) (a : Addr) (h : ρ k = some a) : VR w F ρ (.mu k) (.ref a)
  | list (a : Addr) (xs : List MV) (vs : List Value) (n : Nat) (hF : F a = some (listO vs n)) (hl : vs.length = xs.length)
      (h : ∀ (i : Nat) (x : MV) (v : Value), xs[i]? = some x → vs[i]? = some v → VR w F ρ x v) : VR w F ρ (.list xs) (.ref a)
  | tup (a : Addr) (xs : List MV) (vs : List Value) (n : Nat) (hF : F a = some (tupO vs n)) (hl : vs.length = xs.length)
      (h : ∀ (i : Nat) (x : MV) (v : Value), xs[i]? = some x → vs[i]? = some v → VR w F ρ x v) : VR w F ρ (.tup xs) (.ref a)
  | dictS (a : Addr) (es : List (Str × MV)) (ds : Array DictEntry) (n : Nat) (hF : F a = some { cls := .type "dict", data := .dict ds n }) (hm : (a == sysModules) = false) (hl : ds.size = es.length)
      (hk : ∀ (i : Nat) (x : Str × MV) (d : DictEntry), es[i]? = some x → ds[i]? = some d → (∃ t, d.key = .str x.1 t) ∧ d.hash = hashStr w x.1)
      (h : ∀ (i : Nat) (x : Str × MV) (d : DictEntry), es[i]? = some x → ds[i]? = some d → VR w F ρ x.2 d.val) : VR w F ρ (.dictS es) (.ref a)
  | dictI (a : Addr) (es : List (Int × MV)) (ds : Array DictEntry) (n : Nat) (hF : F a = some { cls := .type "dict", data := .dict ds n }) (hm : (a == sysModules) = false) (hl : ds.size = es.length)
      (hk : ∀ (i : Nat) (x : Int × MV) (d : DictEntry), es[i]? = some x → ds[i]? = some d → (∃ t, d.key = .int x.1 t) ∧ d.hash = hashInt x.1)
      (h : ∀ (i : Nat) (x : Int × MV) (d : DictEntry), es[i]? = some x → ds[i]? = some d → VR w F ρ x.2 d.val) : VR w F ρ (.dictI es) (.ref a)
  | rng (r : Addr) (a b : Int) (t u c : Tok) (hF : F r = some { cls := .type "range", dict := none, data := .fields #[.int a t, .int b u, .int 1 c], slots := #[] }) : VR w F ρ (.rng a b) (.ref r)

noncomputable def VRs (w : World) (F : Frz) (ρ : Nat → Option Addr) (xs : List MV) (vs : List Value) : Prop :=
  vs.length = xs.length ∧ ∀ (i : Nat) (x : MV) (v : Value), xs[i]? = some x → vs[i]? = some v → VR w F ρ x v

section
variable {w : World} {F F' : Frz} {ρ ρ' : Nat → Option Addr}
theorem VR.mono (hF : Sub F F') (hρ : ∀ k a, ρ k = some a → ρ' k = some a) {x : MV} {v : Value} (h : VR w F ρ x v) : VR w F' ρ' x v := by
  induction h with
  | none => exact .none
  | bool b => exact .bool b
  | int i t => exact .int i t
  | str s t => exact .str s t
  | obj v => exact .obj v
  | mu k a h => exact .mu k a (hρ k a h)
  | list a xs vs n h1 h2 _ ih => exact .list a xs vs n (hF _ _ h1) h2 ih
  | tup a xs vs n h1 h2 _ ih => exact .tup a xs vs n (hF _ _ h1) h2 ih
  | dictS a es ds n h1 h0 h2 h3 _ ih => exact .dictS a es ds n (hF _ _ h1) h0 h2 h3 ih
  | dictI a es ds n h1 h0 h2 h3 _ ih => exact .dictI a es ds n (hF _ _ h1) h0 h2 h3 ih
  | rng r a b t u c h1 => exact .rng r a b t u c (hF _ _ h1)
theorem VRs.mono (hF : Sub F F') (hρ : ∀ k a, ρ k = some a → ρ' k = some a) {xs : List MV} {vs : List Value} (h : VRs w F ρ xs vs) : VRs w F' ρ' xs vs :=
  ⟨h.1, fun i x v hx hv => (h.2 i x v hx hv).mono hF hρ⟩
theorem VRs.nil : VRs w F ρ [] [] := ⟨rfl, fun _ _ _ h => by simp at h⟩
theorem VRs.cons {x : MV} {v : Value} {xs : List MV} {vs : List Value} (h : VR w F ρ x v) (hs : VRs w F ρ xs vs) : VRs w F ρ (x :: xs) (v :: vs) :=
  ⟨by simp [hs.1], fun i y u hy hu => by
    cases i with
    | zero => simp at hy hu; subst hy hu; exact h
    | succ i => exact hs.2 i y u (by simpa using hy) (by simpa using hu)⟩
theorem VRs.head {x : MV} {v : Value} {xs : List MV} {vs : List Value} (h : VRs w F ρ (x :: xs) (v :: vs)) : VR w F ρ x v := h.2 0 x v rfl rfl
theorem VRs.tail {x : MV} {v : Value} {xs : List MV} {vs : List Value} (h : VRs w F ρ (x :: xs) (v :: vs)) : VRs w F ρ xs vs :=
  ⟨by simpa using h.1, fun i y u hy hu => h.2 (i + 1) y u (by simpa using hy) (by simpa using hu)⟩
theorem VRs.snoc {x : MV} {v : Value} {xs : List MV} {vs : List Value} (hs : VRs w F ρ xs vs) (h : VR w F ρ x v) : VRs w F ρ (xs ++ [x]) (vs ++ [v]) := by
  refine ⟨by simp [hs.1], fun i y u hy hu => ?_⟩
  rw [List.getElem?_append] at hy hu
  rw [hs.1] at hu
  split at hy
  · rename_i hi; rw [if_pos hi] at hu; exact hs.2 i y u hy hu
  · rename_i hi
    rw [if_neg hi] at hu
    generalize i - xs.length = j at hy hu
    cases j with
    | zero => simp at hy hu; subst hy hu; exact h
    | succ j => simp at hy
theorem VRs.get {xs : List MV} {vs : List Value} (hs : VRs w F ρ xs vs) {i : Nat} {x : MV} (hx : xs[i]? = some x) : ∃ v, vs[i]? = some v ∧ VR w F ρ x v := by
  have : i < vs.length := by rw [hs.1]; exact (List.getElem?_eq_some_iff.mp hx).1
  exact ⟨vs[i], List.getElem?_eq_getElem this, hs.2 i x _ hx (List.getElem?_eq_getElem this)⟩
end

structure Ext where
  rel : World → Frz → (Nat → Option Addr) → List Addr → Heap → Prop
  mono : ∀ w F F' ρ ρ' fp h, Sub F F' → (∀ k a, ρ k = some a → ρ' k = some a) → rel w F ρ fp h → rel w F' ρ' fp h
  stab : ∀ w F ρ fp h h', (∀ a ∈ fp, h'.get? a = h.get? a) → rel w F ρ fp h → rel w F ρ fp h'
  nor : ∀ w F ρ fp h, rel w F ρ fp h → rel w F (fun _ => none) fp h
inductive MO where
  | lst (xs : List MV)
  | ext (e : Ext)
inductive OR (w : World) (F : Frz) (ρ : Nat → Option Addr) : MO → List Addr → Heap → Prop
  | lst (a : Addr) (xs : List MV) (vs : List Value) (n : Nat) (h : Heap) (hh : h.get? a = some (listO vs n)) (hv : VRs w F ρ xs vs) : OR w F ρ (.lst xs) [a] h
  | ext (e : Ext) (fp : List Addr) (h : Heap) (hh : e.rel w F ρ fp h) : OR w F ρ (.ext e) fp h
section
variable {w : World} {F F' : Frz} {ρ ρ' : Nat → Option Addr}
theorem OR.mono (hF : Sub F F') (hρ : ∀ k a, ρ k = some a → ρ' k = some a) {o : MO} {fp : List Addr} {h : Heap} (x : OR w F ρ o fp h) : OR w F' ρ' o fp h := by
  cases x with
  | lst a xs vs n _ hh hv => exact .lst a xs vs n h hh (hv.mono hF hρ)
  | ext e _ _ hh => exact .ext e fp h (e.mono _ _ _ _ _ _ _ hF hρ hh)
theorem OR.stab {o : MO} {fp : List Addr} {h h' : Heap} (hs : ∀ a ∈ fp, h'.get? a = h.get? a) (x : OR w F ρ o fp h) : OR w F ρ o fp h' := by
  cases x with
  | lst a xs vs n _ hh hv => exact .lst a xs vs n h' ((hs a (.head _)).trans hh) hv
  | ext e _ _ hh => exact .ext e fp h' (e.stab _ _ _ _ _ _ hs hh)
end

structure St where
  loc : List (Str × MV)
  objs : List (Option MO) := []

/-- what is kept, and of this what is held by a loop -/
structure Kp where
  f : Frz
  x : List Addr
structure Cx where
  env : Env
  oc : List (Str × Addr)
  A : Around
  hB : Frz
  hX : Frz
  glob : List (Str × MV)
  names : List Str
  sh : Shared
  F0 : Frz
  fps0 : List (List Addr)
  lo : Nat

noncomputable def rho (fps : List (List Addr)) (k : Nat) : Option Addr := fps[k]?.bind List.head?
noncomputable def alive : List (Option MO) → List (List Addr) → List Addr
  | some _ :: os, fp :: fps => fp ++ alive os fps
  | none :: os, _ :: fps => alive os fps
  | _, _ => []
noncomputable def Cx.hot (Γ : Cx) (os : List (Option MO)) (fps : List (List Addr)) : List Addr := Γ.env.locals :: (Γ.oc.map (·.2) ++ alive os fps)

variable (prog : Program) (w : World)
structure Cx.Ok (Γ : Cx) : Prop where
  kind : Γ.env.scope.kind = .function
  nodup : Γ.names.Nodup
  kinds : ∀ x ∈ Γ.names, (x == ("__debug__" : Str)) = false ∧ (Γ.env.kindOf x = some .local ∨ (Γ.env.kindOf x = some .cell ∧ ∃ c, Γ.oc.lookup x = some c))
  ocs : ∀ n c, Γ.oc.lookup n = some c → Γ.env.cells.lookup n = some c
  glob : ∀ x mv, (x, mv) ∈ Γ.glob → ∃ v, VR w Γ.hB (fun _ => none) mv v ∧ ∀ (A : Around) (E : Value → Shared → Prop) (s : Shared) (Q : Value → Shared → Prop) (p : Pos), (∀ b o, Γ.hB b = some o → s.heap.get? b = some o) → (∀ b o, Γ.hX b = some o → s.heap.get? b = some o) → Q v s →
    wpAny (model prog w) A (eval (.Name x p) Γ.env) Q E s
  room : Γ.A.depth < recursionLimit
  units : Γ.A.units + 10 < cLine
  handled : Γ.A.handled = none
  lo1 : 1 ≤ Γ.lo

structure Core (Γ : Cx) (K : Kp) (σ : St) (ps : List (MV × Value)) (s : Shared) (F : Frz) (m cm : Str → Option Value) (fps : List (List Addr)) : Prop where
  ok : Γ.Ok prog w
  base : ∀ b o, Γ.hB b = some o → F b = some o
  frz : ∀ b o, F b = some o → s.heap.get? b = some o
  frzH : ∀ b o, F b = some o → b ∉ Γ.hot σ.objs fps
  kept : ∀ b o, K.f b = some o → s.heap.get? b = some o
  keptH : ∀ b o, K.f b = some o → b ∉ Γ.hot σ.objs fps
  hx : ∀ b o, Γ.hX b = some o → K.f b = some o
  held : ∀ b ∈ K.x, F b = none ∧ (∃ o, K.f b = some o) ∧ Γ.sh.heap.get? b = none
  hot : (Γ.hot σ.objs fps).Nodup
  live : ∀ b ∈ Γ.hot σ.objs fps, ∃ o, s.heap.get? b = some o
  ns : s.heap.Ns Γ.env.locals m
  cell : ∀ n c, Γ.oc.lookup n = some c → s.heap.IsCell c (cm n)
  keys : σ.loc.map (·.1) = Γ.names
  loc : ∀ x mv, (x, mv) ∈ σ.loc → mv = .undef ∨ ∃ v, (Γ.env.kindOf x = some .local → m x = some v) ∧ (Γ.env.kindOf x = some .cell → cm x = some v) ∧ VR w F (rho fps) mv v
  len : fps.length = σ.objs.length
  pre : ∃ l, fps = Γ.fps0 ++ l
  trk : ∀ (k : Nat) (o : MO), σ.objs[k]? = some (some o) → ∃ fp, fps[k]? = some fp ∧ OR w F (rho fps) o fp s.heap
  ps : ∀ p ∈ ps, VR w F (rho fps) p.1 p.2
  tok : Γ.lo ≤ s.toks
  same : ∃ h tk, s = { Γ.sh with heap := h, toks := tk }
  lim : ∀ b o, F b = some o → Γ.F0 b = some o ∨ Γ.sh.heap.get? b = none
  ext : ∀ b o, Γ.sh.heap.get? b = some o → ∃ o', s.heap.get? b = some o'
  ownL : ∀ (k : Nat) (xs : List MV) (fp : List Addr), σ.objs[k]? = some (some (.lst xs)) → fps[k]? = some fp → ∀ a ∈ fp, Γ.sh.heap.get? a = none

noncomputable def Rel (Γ : Cx) (K : Kp) (σ : St) (ps : List (MV × Value)) (s : Shared) : Prop := ∃ F m cm fps, Core prog w Γ K σ ps s F m cm fps

/-- what an expression gives -/
noncomputable def WPe (Γ : Cx) (σ : St) (e : Expr) (Q : MV → St → Prop) : Prop :=
  ∀ (K : Kp) (ps : List (MV × Value)) (s : Shared) (R : Value → Shared → Prop), Rel prog w Γ K σ ps s →
    (∀ mv v σ' s', Q mv σ' → Rel prog w Γ K σ' ((mv, v) :: ps) s' → R v s') →
    wpAny (model prog w) Γ.A (eval e Γ.env) R (fun _ _ => False) s
/-- a tree over values that wait -/
noncomputable def WPv (Γ : Cx) (σ : St) (xs : List MV) (t : List Value → Sem Value) (Q : MV → St → Prop) : Prop :=
  ∀ (K : Kp) (ps : List (MV × Value)) (vs : List Value) (s : Shared) (R : Value → Shared → Prop), vs.length = xs.length → Rel prog w Γ K σ (xs.zip vs ++ ps) s →
    (∀ mv v σ' s', Q mv σ' → Rel prog w Γ K σ' ((mv, v) :: ps) s' → R v s') →
    wpAny (model prog w) Γ.A (t vs) R (fun _ _ => False) s
noncomputable def WPu (Γ : Cx) (σ : St) (xs : List MV) (t : List Value → Sem Unit) (Q : St → Prop) : Prop :=
  ∀ (K : Kp) (ps : List (MV × Value)) (vs : List Value) (s : Shared) (R : Unit → Shared → Prop), vs.length = xs.length → Rel prog w Γ K σ (xs.zip vs ++ ps) s →
    (∀ σ' s', Q σ' → Rel prog w Γ K σ' ps s' → R () s') →
    wpAny (model prog w) Γ.A (t vs) R (fun _ _ => False) s
noncomputable def WPt (Γ : Cx) (σ : St) (e : Expr) (Q : Bool → St → Prop) : Prop :=
  ∀ (K : Kp) (ps : List (MV × Value)) (s : Shared) (R : Bool → Shared → Prop), Rel prog w Γ K σ ps s →
    (∀ b σ' s', Q b σ' → Rel prog w Γ K σ' ps s' → R b s') →
    wpAny (model prog w) Γ.A (isTrue e Γ.env (eval e Γ.env)) R (fun _ _ => False) s
inductive MF where
  | next | brk | cont | ret (v : MV)
noncomputable def FR (prog : Program) (w : World) (Γ : Cx) (K : Kp) (σ : St) (ps : List (MV × Value)) : MF → Flow → Shared → Prop
  | .next, f, s => f = .next ∧ Rel prog w Γ K σ ps s
  | .brk, f, s => f = .brk ∧ Rel prog w Γ K σ ps s
  | .cont, f, s => f = .cont ∧ Rel prog w Γ K σ ps s
  | .ret mv, f, s => ∃ v, f = .ret v ∧ Rel prog w Γ K σ ((mv, v) :: ps) s
noncomputable def WPs (Γ : Cx) (σ : St) (b : List Stmt) (Q : MF → St → Prop) : Prop :=
  ∀ (K : Kp) (ps : List (MV × Value)) (s : Shared) (R : Flow → Shared → Prop), Rel prog w Γ K σ ps s →
    (∀ mf f σ' s', Q mf σ' → FR prog w Γ K σ' ps mf f s' → R f s') →
    wpAny (model prog w) Γ.A (execs b Γ.env) R (fun _ _ => False) s
noncomputable def WPx (Γ : Cx) (σ : St) (b : Stmt) (Q : MF → St → Prop) : Prop :=
  ∀ (K : Kp) (ps : List (MV × Value)) (s : Shared) (R : Flow → Shared → Prop), Rel prog w Γ K σ ps s →
    (∀ mf f σ' s', Q mf σ' → FR prog w Γ K σ' ps mf f s' → R f s') →
    wpAny (model prog w) Γ.A (exec b Γ.env) R (fun _ _ => False) s

variable {prog : Program} {w : World} {Γ : Cx} {K : Kp} {σ σ' : St} {ps : List (MV × Value)} {s : Shared} {F : Frz} {m cm : Str → Option Value} {fps : List (List Addr)}

noncomputable def Frz.put (F : Frz) (a : Addr) (o : Obj) : Frz := fun b => if b = a then some o else F b
theorem Frz.put_sub {F : Frz} {a : Addr} {o : Obj} (h : F a = none) : Sub F (F.put a o) := fun b x e => by
  unfold Frz.put; split
  · rename_i hb; subst hb; rw [h] at e; cases e
  · exact e
theorem Frz.put_self {F : Frz} {a : Addr} {o : Obj} : F.put a o a = some o := if_pos rfl

theorem get?_size (h : Heap) : h.get? h.objs.size = none := by
  cases e : h.get? h.objs.size with
  | none => rfl
  | some o => exact absurd (Heap.lt_size e) (Nat.lt_irrefl _)

theorem mem_alive {o : MO} {fp : List Addr} : ∀ {os : List (Option MO)} {fps : List (List Addr)} {k : Nat}, os[k]? = some (some o) → fps[k]? = some fp → ∀ {a : Addr}, a ∈ fp → a ∈ alive os fps
  | [], _, _, ho, _, _, _ => by simp at ho
  | _ :: _, [], _, _, hfp, _, _ => by simp at hfp
  | x :: os, f :: fps, 0, ho, hfp, a, ha => by
    simp at ho hfp; subst ho hfp
    exact List.mem_append_left _ ha
  | x :: os, f :: fps, k + 1, ho, hfp, a, ha => by
    have := mem_alive (os := os) (fps := fps) (k := k) (by simpa using ho) (by simpa using hfp) ha
    cases x with
    | none => exact this
    | some _ => exact List.mem_append_right _ this

namespace Core
variable (C : Core prog w Γ K σ ps s F m cm fps)
include C
theorem noneF : F s.heap.objs.size = none := by
  cases e : F s.heap.objs.size with
  | none => rfl
  | some o => have := C.frz _ _ e; rw [get?_size] at this; cases this
theorem noneK : K.f s.heap.objs.size = none := by
  cases e : K.f s.heap.objs.size with
  | none => rfl
  | some o => have := C.kept _ _ e; rw [get?_size] at this; cases this
theorem lt {b : Addr} (h : b ∈ Γ.hot σ.objs fps) : b < s.heap.objs.size := let ⟨_, e⟩ := C.live b h; Heap.lt_size e
theorem notHot : s.heap.objs.size ∉ Γ.hot σ.objs fps := fun h => Nat.lt_irrefl _ (C.lt h)

/-- the waiting values turn -/
theorem setps {ps' : List (MV × Value)} (h : ∀ p ∈ ps', VR w F (rho fps) p.1 p.2) : Core prog w Γ K σ ps' s F m cm fps :=
  { C with ps := h }
theorem cons {x : MV} {v : Value} (h : VR w F (rho fps) x v) : Core prog w Γ K σ ((x, v) :: ps) s F m cm fps :=
  C.setps fun p hp => by
    rcases List.mem_cons.mp hp with rfl | hp
    · exact h
    · exact C.ps p hp
theorem toks (t : Nat) (ht : s.toks ≤ t := by first | exact Nat.le_refl _ | exact Nat.le_succ _ | omega | (dsimp only; omega)) : Core prog w Γ K σ ps { s with toks := t } F m cm fps :=
  { C with
    frz := C.frz, kept := C.kept, live := C.live, ns := C.ns, cell := C.cell, trk := C.trk, tok := Nat.le_trans C.tok ht
    same := by obtain ⟨h, tk, e⟩ := C.same; exact ⟨h, t, by rw [e]⟩
    ext := C.ext }

theorem mem_hot {k : Nat} {o : MO} {fp : List Addr} (ho : σ.objs[k]? = some (some o)) (hfp : fps[k]? = some fp) {a : Addr} (ha : a ∈ fp) : a ∈ Γ.hot σ.objs fps :=
  let _ := C; List.mem_cons_of_mem _ (List.mem_append_right _ (mem_alive ho hfp ha))
/-- a heap that keeps all: new objects alone -/
theorem grow {h' : Heap} {F' : Frz} (hk : ∀ b o, s.heap.get? b = some o → h'.get? b = some o) (hF : Sub F F') (hF' : ∀ b o, F' b = some o → h'.get? b = some o)
    (hn : ∀ b o, F' b = some o → F b = some o ∨ s.heap.get? b = none) (t : Nat) (ht : s.toks ≤ t := by first | exact Nat.le_refl _ | exact Nat.le_succ _ | omega | (dsimp only; omega)) : Core prog w Γ K σ ps { s with heap := h', toks := t } F' m cm fps where
  ok := C.ok
  base := fun b o e => hF _ _ (C.base b o e)
  frz := hF'
  frzH := fun b o e hh => (hn b o e).elim (fun e => C.frzH b o e hh) fun hb => by obtain ⟨o', e'⟩ := C.live b hh; rw [hb] at e'; cases e'
  kept := fun b o e => hk _ _ (C.kept b o e)
  keptH := C.keptH
  hx := C.hx
  held := fun b hb => by
    obtain ⟨h1, ⟨o, h2⟩, h3⟩ := C.held b hb
    refine ⟨?_, ⟨o, h2⟩, h3⟩
    cases e : F' b with
    | none => rfl
    | some o' => rcases hn b o' e with q | q
                 · rw [h1] at q; cases q
                 · rw [C.kept b o h2] at q; cases q
  hot := C.hot
  live := fun b hb => let ⟨o, e⟩ := C.live b hb; ⟨o, hk _ _ e⟩
  ns := C.ns.keeps hk
  cell := fun n c hc => (C.cell n c hc).keeps hk
  keys := C.keys
  loc := fun x mv hx => (C.loc x mv hx).imp id fun ⟨v, h1, h2, h3⟩ => ⟨v, h1, h2, h3.mono hF fun _ _ e => e⟩
  len := C.len
  pre := C.pre
  trk := fun k o ho => by
    obtain ⟨fp, hfp, hr⟩ := C.trk k o ho
    refine ⟨fp, hfp, (hr.mono hF fun _ _ e => e).stab fun a ha => ?_⟩
    obtain ⟨o', e'⟩ := C.live a (C.mem_hot ho hfp ha)
    rw [e', hk _ _ e']
  ps := fun p hp => (C.ps p hp).mono hF fun _ _ e => e
  tok := Nat.le_trans C.tok ht
  same := by obtain ⟨h, tk, e⟩ := C.same; exact ⟨h', t, by rw [e]⟩
  lim := fun b o e => (hn b o e).elim (C.lim b o) fun hb => by
    cases q : Γ.sh.heap.get? b with
    | none => exact .inr rfl
    | some o' => obtain ⟨o'', e'⟩ := C.ext b o' q; rw [hb] at e'; cases e'
  ext := fun b o e => let ⟨o', e'⟩ := C.ext b o e; ⟨o', hk _ _ e'⟩
  ownL := C.ownL
/-- one new object, frozen at once -/
theorem alloc (o : Obj) (ho : o.isFreed = false := by rfl) : Core prog w Γ K σ ps { s with heap := s.heap.push o } (F.put s.heap.objs.size o) m cm fps :=
  C.grow (fun _ _ e => Heap.get?_push_of_some _ e) (Frz.put_sub C.noneF) (fun b x e => by
    unfold Frz.put at e; split at e
    · rename_i hb; subst hb; cases e; exact Heap.get?_push_size _ ho
    · exact Heap.get?_push_of_some _ (C.frz b x e)) (fun b x e => by
    unfold Frz.put at e; split at e
    · rename_i hb; subst hb; exact .inr (get?_size _)
    · exact .inl e) s.toks
theorem zip {xs : List MV} {vs : List Value} (hl : vs.length = xs.length) {qs : List (MV × Value)} (hp : ps = xs.zip vs ++ qs) : VRs w F (rho fps) xs vs := by
  refine ⟨hl, fun i x v hx hv => ?_⟩
  have : (x, v) ∈ xs.zip vs := by
    refine List.mem_iff_getElem?.mpr ⟨i, ?_⟩
    rw [List.getElem?_zip_eq_some]; exact ⟨hx, hv⟩
  exact C.ps (x, v) (by rw [hp]; exact List.mem_append_left _ this)
/-- a name that turns, in the frame's own table -/
theorem storeL {x : Str} {mv : MV} {v : Value} {l₁ l₂ : List (Str × MV)} {old : MV} {h' : Heap} (hloc : σ.loc = l₁ ++ (x, old) :: l₂) (hx : Γ.env.kindOf x = some .local) (hv : VR w F (rho fps) mv v)
    (hn : h'.Ns Γ.env.locals fun y => if y = x then some v else m y) (hs : Heap.SameBut Γ.env.locals s.heap h') (t : Nat) (ht : s.toks ≤ t := by first | exact Nat.le_refl _ | exact Nat.le_succ _ | omega | (dsimp only; omega)) :
    Core prog w Γ K { σ with loc := l₁ ++ (x, mv) :: l₂ } ps { s with heap := h', toks := t } F (fun y => if y = x then some v else m y) cm fps := by
  have hL : Γ.env.locals ∈ Γ.hot σ.objs fps := .head _
  have hne : ∀ b, b ∈ Γ.oc.map (·.2) ++ alive σ.objs fps → b ≠ Γ.env.locals := fun b hb e => by
    have := (List.nodup_cons.mp C.hot).1
    rw [e] at hb; exact this hb
  have hk : (l₁ ++ (x, old) :: l₂).map (·.1) = Γ.names := hloc ▸ C.keys
  have hnd : ((l₁ ++ (x, old) :: l₂).map (·.1)).Nodup := hk ▸ C.ok.nodup
  refine { C with
    frz := fun b o e => (hs.2 b fun q => C.frzH b o e (q ▸ hL)).trans (C.frz b o e)
    kept := fun b o e => (hs.2 b fun q => C.keptH b o e (q ▸ hL)).trans (C.kept b o e)
    live := fun b hb => ?_
    ns := hn
    cell := fun n c hc => (C.cell n c hc).sameBut hs (hne c (List.mem_append_left _ (List.mem_map.mpr ⟨(n, c), mem_of_lookup hc, rfl⟩)))
    tok := Nat.le_trans C.tok ht
    keys := by rw [← hk]; simp
    loc := fun y mv' hy => ?_
    trk := fun k o ho => ?_
    same := by obtain ⟨h, tk, e⟩ := C.same; exact ⟨h', t, by rw [e]⟩
    ext := fun b o e => ?_ }
  · by_cases q : b = Γ.env.locals
    · subst q; obtain ⟨o, _, _, e, _⟩ := hn; exact ⟨o, e⟩
    · obtain ⟨o, e⟩ := C.live b hb; exact ⟨o, (hs.2 b q).trans e⟩
  · have hy' : (y = x ∧ mv' = mv) ∨ (y ≠ x ∧ (y, mv') ∈ σ.loc) := by
      rw [List.map_append, List.map_cons, List.nodup_append] at hnd
      obtain ⟨_, n2, n3⟩ := hnd
      rcases List.mem_append.mp hy with h | h
      · refine .inr ⟨fun e => ?_, by rw [hloc]; exact List.mem_append_left _ h⟩
        subst e
        exact n3 y (List.mem_map.mpr ⟨_, h, rfl⟩) y (.head _) rfl
      · rcases List.mem_cons.mp h with h | h
        · cases h; exact .inl ⟨rfl, rfl⟩
        · rename_i h'
          refine .inr ⟨fun e => ?_, by rw [hloc]; exact List.mem_append_right _ (.tail _ h)⟩
          subst e
          exact (List.nodup_cons.mp n2).1 (List.mem_map.mpr ⟨_, h, rfl⟩)
    rcases hy' with ⟨rfl, rfl⟩ | ⟨hyx, hy'⟩
    · exact .inr ⟨v, fun _ => if_pos rfl, fun q => by (rw [hx] at q; cases q), hv⟩
    · exact (C.loc y mv' hy').imp id fun ⟨u, h1, h2, h3⟩ => ⟨u, fun q => (if_neg hyx).trans (h1 q), h2, h3⟩
  · obtain ⟨fp, hfp, hr⟩ := C.trk k o ho
    refine ⟨fp, hfp, hr.stab fun a ha => hs.2 a (hne a ?_)⟩
    exact List.mem_append_right _ (mem_alive ho hfp ha)
  · by_cases q : b = Γ.env.locals
    · subst q; obtain ⟨o, _, _, e, _⟩ := hn; exact ⟨o, e⟩
    · obtain ⟨o', e'⟩ := C.ext b o e; exact ⟨o', (hs.2 b q).trans e'⟩
/-- the same in a cell -/
theorem storeC {x : Str} {mv : MV} {v : Value} {l₁ l₂ : List (Str × MV)} {old : MV} {c : Addr} {h' : Heap} (hloc : σ.loc = l₁ ++ (x, old) :: l₂) (hx : Γ.env.kindOf x = some .cell) (hc : Γ.oc.lookup x = some c) (hv : VR w F (rho fps) mv v)
    (hn : h'.IsCell c (some v)) (hs : Heap.SameBut c s.heap h') (t : Nat) (ht : s.toks ≤ t := by first | exact Nat.le_refl _ | exact Nat.le_succ _ | omega | (dsimp only; omega)) :
    Core prog w Γ K { σ with loc := l₁ ++ (x, mv) :: l₂ } ps { s with heap := h', toks := t } F m (fun y => if y = x then some v else cm y) fps := by
  have hcm : c ∈ Γ.oc.map (·.2) := List.mem_map.mpr ⟨(x, c), mem_of_lookup hc, rfl⟩
  have hL : c ∈ Γ.hot σ.objs fps := List.mem_cons_of_mem _ (List.mem_append_left _ hcm)
  obtain ⟨n1, n2⟩ := List.nodup_cons.mp C.hot
  obtain ⟨n3, n4, n5⟩ := List.nodup_append.mp n2
  have hLc : Γ.env.locals ≠ c := fun e => n1 (by rw [e]; exact List.mem_append_left _ hcm)
  have hk : (l₁ ++ (x, old) :: l₂).map (·.1) = Γ.names := hloc ▸ C.keys
  have hnd : ((l₁ ++ (x, old) :: l₂).map (·.1)).Nodup := hk ▸ C.ok.nodup
  refine { C with
    frz := fun b o e => (hs.2 b fun q => C.frzH b o e (q ▸ hL)).trans (C.frz b o e)
    kept := fun b o e => (hs.2 b fun q => C.keptH b o e (q ▸ hL)).trans (C.kept b o e)
    live := fun b hb => ?_
    ns := C.ns.sameBut hs hLc
    cell := fun n c' hc' => ?_
    tok := Nat.le_trans C.tok ht
    keys := by rw [← hk]; simp
    loc := fun y mv' hy => ?_
    trk := fun k o ho => ?_
    same := by obtain ⟨h, tk, e⟩ := C.same; exact ⟨h', t, by rw [e]⟩
    ext := fun b o e => ?_ }
  · by_cases q : b = c
    · subst q; obtain ⟨o, e, _⟩ := hn; exact ⟨o, e⟩
    · obtain ⟨o, e⟩ := C.live b hb; exact ⟨o, (hs.2 b q).trans e⟩
  · by_cases q : n = x
    · subst q; rw [hc] at hc'; cases hc'; simpa using hn
    · rw [if_neg q]
      refine (C.cell n c' hc').sameBut hs fun e => q ?_
      subst e
      refine name_of_addr (cs := Γ.oc) ?_ (mem_of_lookup hc') (mem_of_lookup hc)
      have := n3
      unfold List.Nodup at this
      rwa [List.pairwise_map] at this
  · have hy' : (y = x ∧ mv' = mv) ∨ (y ≠ x ∧ (y, mv') ∈ σ.loc) := by
      rw [List.map_append, List.map_cons, List.nodup_append] at hnd
      obtain ⟨_, n2, n3⟩ := hnd
      rcases List.mem_append.mp hy with h | h
      · refine .inr ⟨fun e => ?_, by rw [hloc]; exact List.mem_append_left _ h⟩
        subst e
        exact n3 y (List.mem_map.mpr ⟨_, h, rfl⟩) y (.head _) rfl
      · rcases List.mem_cons.mp h with h | h
        · cases h; exact .inl ⟨rfl, rfl⟩
        · rename_i h'
          refine .inr ⟨fun e => ?_, by rw [hloc]; exact List.mem_append_right _ (.tail _ h)⟩
          subst e
          exact (List.nodup_cons.mp n2).1 (List.mem_map.mpr ⟨_, h, rfl⟩)
    rcases hy' with ⟨rfl, rfl⟩ | ⟨hyx, hy'⟩
    · exact .inr ⟨v, fun q => by (rw [hx] at q; cases q), fun _ => if_pos rfl, hv⟩
    · exact (C.loc y mv' hy').imp id fun ⟨u, h1, h2, h3⟩ => ⟨u, h1, fun q => (if_neg hyx).trans (h2 q), h3⟩
  · obtain ⟨fp, hfp, hr⟩ := C.trk k o ho
    refine ⟨fp, hfp, hr.stab fun a ha => hs.2 a fun e => ?_⟩
    exact n5 c hcm a (mem_alive ho hfp ha) e.symm
  · by_cases q : b = c
    · subst q; obtain ⟨o, e, _⟩ := hn; exact ⟨o, e⟩
    · obtain ⟨o', e'⟩ := C.ext b o e; exact ⟨o', (hs.2 b q).trans e'⟩
end Core

/-- a store into a name -/
noncomputable def upd (x : Str) (mv : MV) : List (Str × MV) → List (Str × MV)
  | [] => []
  | (y, u) :: l => if y = x then (x, mv) :: l else (y, u) :: upd x mv l
/-- told by where it lies -/
inductive Put (x : Str) (mv : MV) : List (Str × MV) → List (Str × MV) → Prop
  | here (u : MV) (l : List (Str × MV)) : Put x mv ((x, u) :: l) ((x, mv) :: l)
  | there (p : Str × MV) {l l' : List (Str × MV)} (h : Put x mv l l') : Put x mv (p :: l) (p :: l')
theorem Put.split {x : Str} {mv : MV} {l l' : List (Str × MV)} (h : Put x mv l l') : ∃ l₁ l₂ old, l = l₁ ++ (x, old) :: l₂ ∧ l' = l₁ ++ (x, mv) :: l₂ := by
  induction h with
  | here u l => exact ⟨[], l, u, rfl, rfl⟩
  | there p _ ih => obtain ⟨a, b, o, h1, h2⟩ := ih; exact ⟨p :: a, b, o, by rw [h1]; rfl, by rw [h2]; rfl⟩

noncomputable def PutQ (x : Str) (mv : MV) (l : List (Str × MV)) (P : List (Str × MV) → Prop) : Prop := ∃ l', Put x mv l l' ∧ P l'
theorem putq_here {x : Str} {mv u : MV} {l : List (Str × MV)} {P : List (Str × MV) → Prop} (h : P ((x, mv) :: l)) : PutQ x mv ((x, u) :: l) P := ⟨_, .here u l, h⟩
theorem putq_there {x : Str} {mv : MV} {p : Str × MV} {l : List (Str × MV)} {P : List (Str × MV) → Prop} (h : PutQ x mv l fun l' => P (p :: l')) : PutQ x mv (p :: l) P :=
  let ⟨l', a, b⟩ := h; ⟨p :: l', .there p a, b⟩
inductive Lk {α : Type} (x : Str) (mv : α) : List (Str × α) → Prop
  | here (l : List (Str × α)) : Lk x mv ((x, mv) :: l)
  | there (p : Str × α) {l : List (Str × α)} (h : Lk x mv l) : Lk x mv (p :: l)
theorem Lk.mem {α : Type} {x : Str} {mv : α} {l : List (Str × α)} (h : Lk x mv l) : (x, mv) ∈ l := by
  induction h with
  | here l => exact .head _
  | there p _ ih => exact .tail _ ih
noncomputable def MV.ok : MV → Bool
  | .undef => false
  | _ => true
theorem MV.ne {x : MV} (h : x.ok = true) : x ≠ .undef := fun e => by subst e; cases h

variable {Q : MV → St → Prop} {QF : MF → St → Prop}
theorem wp_name {x : Str} {p : Pos} {mv : MV} (hk : Lk x mv σ.loc) (hu : mv.ok = true) (h : Q mv σ) : WPe prog w Γ σ (.Name x p) Q := by
  rintro K ps s R ⟨F, m, cm, fps, C⟩ hR
  have hx := hk.mem
  obtain ⟨v, h1, h2, h3⟩ := (C.loc x mv hx).resolve_left (MV.ne hu)
  obtain ⟨hd, hk⟩ := C.ok.kinds x (C.keys ▸ List.mem_map.mpr ⟨_, hx, rfl⟩)
  refine wpAny_Name ?_ hd
  rcases hk with hk | ⟨hk, c, hc⟩
  · exact wpAny_loadName_local C.ok.kind hk C.ns (h1 hk) (hR _ _ _ _ h ⟨F, m, cm, fps, C.cons h3⟩)
  · exact wpAny_loadName_cell C.ok.kind hk (C.ok.ocs _ _ hc) (h2 hk ▸ C.cell x c hc) (hR _ _ _ _ h ⟨F, m, cm, fps, C.cons h3⟩)
theorem wp_glob {x : Str} {p : Pos} {mv : MV} (hk : Lk x mv Γ.glob) (h : Q mv σ) : WPe prog w Γ σ (.Name x p) Q := by
  rintro K ps s R ⟨F, m, cm, fps, C⟩ hR
  obtain ⟨v, hv, hl⟩ := C.ok.glob x mv hk.mem
  exact hl _ _ _ _ _ (fun b o e => C.frz b o (C.base b o e)) (fun b o e => C.kept b o (C.hx b o e)) (hR _ _ _ _ h ⟨F, m, cm, fps, C.cons (hv.mono C.base fun _ _ e => by cases e)⟩)

variable {prog : Program} {w : World} {Γ : Cx} {K : Kp} {σ σ' : St} {ps : List (MV × Value)} {s : Shared} {F : Frz} {m cm : Str → Option Value} {fps : List (List Addr)}
variable {Q : MV → St → Prop} {QB : Bool → St → Prop} {QF : MF → St → Prop} {QU : St → Prop}

noncomputable def WP1 (prog : Program) (w : World) (Γ : Cx) (σ : St) (x : MV) (t : Value → Sem Value) (Q : MV → St → Prop) : Prop :=
  ∀ (K : Kp) (ps : List (MV × Value)) (v : Value) (s : Shared) (R : Value → Shared → Prop), Rel prog w Γ K σ ((x, v) :: ps) s →
    (∀ mv v σ' s', Q mv σ' → Rel prog w Γ K σ' ((mv, v) :: ps) s' → R v s') → wpAny (model prog w) Γ.A (t v) R (fun _ _ => False) s
noncomputable def WP2 (prog : Program) (w : World) (Γ : Cx) (σ : St) (x y : MV) (t : Value → Value → Sem Value) (Q : MV → St → Prop) : Prop :=
  ∀ (K : Kp) (ps : List (MV × Value)) (v u : Value) (s : Shared) (R : Value → Shared → Prop), Rel prog w Γ K σ ((y, u) :: (x, v) :: ps) s →
    (∀ mv v σ' s', Q mv σ' → Rel prog w Γ K σ' ((mv, v) :: ps) s' → R v s') → wpAny (model prog w) Γ.A (t v u) R (fun _ _ => False) s
noncomputable def WB1 (prog : Program) (w : World) (Γ : Cx) (σ : St) (x : MV) (t : Value → Sem Bool) (Q : Bool → St → Prop) : Prop :=
  ∀ (K : Kp) (ps : List (MV × Value)) (v : Value) (s : Shared) (R : Bool → Shared → Prop), Rel prog w Γ K σ ((x, v) :: ps) s →
    (∀ b σ' s', Q b σ' → Rel prog w Γ K σ' ps s' → R b s') → wpAny (model prog w) Γ.A (t v) R (fun _ _ => False) s
noncomputable def WU1 (prog : Program) (w : World) (Γ : Cx) (σ : St) (x : MV) (t : Value → Sem Unit) (Q : St → Prop) : Prop :=
  ∀ (K : Kp) (ps : List (MV × Value)) (v : Value) (s : Shared) (R : Unit → Shared → Prop), Rel prog w Γ K σ ((x, v) :: ps) s →
    (∀ σ' s', Q σ' → Rel prog w Γ K σ' ps s' → R () s') → wpAny (model prog w) Γ.A (t v) R (fun _ _ => False) s

theorem Core.drop {p : MV × Value} (C : Core prog w Γ K σ (p :: ps) s F m cm fps) : Core prog w Γ K σ ps s F m cm fps := C.setps fun q hq => C.ps q (.tail _ hq)
theorem Rel.drop {p : MV × Value} : Rel prog w Γ K σ (p :: ps) s → Rel prog w Γ K σ ps s := fun ⟨F, m, cm, fps, C⟩ => ⟨F, m, cm, fps, C.drop⟩
theorem Rel.toks (h : Rel prog w Γ K σ ps s) (t : Nat) (ht : s.toks ≤ t := by first | exact Nat.le_refl _ | exact Nat.le_succ _ | omega | (dsimp only; omega)) : Rel prog w Γ K σ ps { s with toks := t } := let ⟨F, m, cm, fps, C⟩ := h; ⟨F, m, cm, fps, C.toks t ht⟩
/-- a flat value: it needs no heap -/
inductive Flat1 : MV → Value → Prop
  | none : Flat1 .none .none
  | bool (b : Bool) : Flat1 (.bool b) (.bool b)
  | int (i : Int) (t : Tok) : Flat1 (.int i) (.int i t)
  | str (s : Str) (t : Tok) : Flat1 (.str s) (.str s t)
  | obj (v : Value) : Flat1 (.obj v) v
theorem Flat1.vr {x : MV} {v : Value} (h : Flat1 x v) {ρ : Nat → Option Addr} : VR w F ρ x v := by cases h <;> constructor
theorem Rel.flat (h : Rel prog w Γ K σ ps s) {x : MV} {v : Value} (hf : Flat1 x v) : Rel prog w Γ K σ ((x, v) :: ps) s := let ⟨F, m, cm, fps, C⟩ := h; ⟨F, m, cm, fps, C.cons hf.vr⟩

theorem Rel.int {i : Int} {v : Value} (h : Rel prog w Γ K σ ((.int i, v) :: ps) s) : ∃ t, v = .int i t := by
  obtain ⟨F, m, cm, fps, C⟩ := h
  have := C.ps _ (.head _); cases this; exact ⟨_, rfl⟩
theorem Rel.str {x : Str} {v : Value} (h : Rel prog w Γ K σ ((.str x, v) :: ps) s) : ∃ t, v = .str x t := by
  obtain ⟨F, m, cm, fps, C⟩ := h
  have := C.ps _ (.head _); cases this; exact ⟨_, rfl⟩
theorem Rel.bool {b : Bool} {v : Value} (h : Rel prog w Γ K σ ((.bool b, v) :: ps) s) : v = .bool b := by
  obtain ⟨F, m, cm, fps, C⟩ := h
  have := C.ps _ (.head _); cases this; rfl
theorem Rel.nil {v : Value} (h : Rel prog w Γ K σ ((.none, v) :: ps) s) : v = .none := by
  obtain ⟨F, m, cm, fps, C⟩ := h
  have := C.ps _ (.head _); cases this; rfl
theorem Rel.obj {u v : Value} (h : Rel prog w Γ K σ ((.obj u, v) :: ps) s) : v = u := by
  obtain ⟨F, m, cm, fps, C⟩ := h
  have h2 : VR w F (rho fps) (.obj u) v := C.ps (.obj u, v) (.head _)
  cases h2; rfl

theorem wp_int {i : Int} {k : Nat} {p : Pos} (h : Q (.int i) σ) : WPe prog w Γ σ (.Constant (.int i) k p) Q := by
  intro K ps s R r hR
  exact wpAny_Constant_int (hR _ _ _ _ h ((r.toks _).flat (.int i _)))
theorem wp_str {x : Str} {k : Nat} {p : Pos} (h : Q (.str x) σ) : WPe prog w Γ σ (.Constant (.str x) k p) Q := by
  intro K ps s R r hR
  exact wpAny_Constant_str (hR _ _ _ _ h ((r.toks _).flat (.str x _)))
theorem wp_none {k : Nat} {p : Pos} (h : Q .none σ) : WPe prog w Γ σ (.Constant .none k p) Q := by
  intro K ps s R r hR
  exact wpAny_Constant_none (hR _ _ _ _ h (r.flat .none))
theorem wp_bool {b : Bool} {k : Nat} {p : Pos} (h : Q (.bool b) σ) : WPe prog w Γ σ (.Constant (.bool b) k p) Q := by
  intro K ps s R r hR
  exact wpAny_Constant_bool (hR _ _ _ _ h (r.flat (.bool b)))
theorem WPe.mono {e : Expr} {Q' : MV → St → Prop} (h : WPe prog w Γ σ e Q) (hQ : ∀ x σ, Q x σ → Q' x σ) : WPe prog w Γ σ e Q' :=
  fun K ps s R r hR => h K ps s R r fun mv v σ' s' q => hR mv v σ' s' (hQ _ _ q)
theorem wp_binop {l r : Expr} {op : Operator} {p : Pos} (h : WPe prog w Γ σ l fun x σ₁ => WPe prog w Γ σ₁ r fun y σ₂ => WP2 prog w Γ σ₂ x y (binaryOp op) Q) : WPe prog w Γ σ (.BinOp l op r p) Q := by
  intro K ps s R r' hR
  exact wpAny_BinOp (h K ps s _ r' fun x v σ₁ s₁ h₁ r₁ => h₁ K _ s₁ _ r₁ fun y u σ₂ s₂ h₂ r₂ => h₂ K ps v u s₂ R r₂ hR)
theorem wp_compare {l r : Expr} {op : CmpOp} {p : Pos} (h : WPe prog w Γ σ l fun x σ₁ => WPe prog w Γ σ₁ r fun y σ₂ => WP2 prog w Γ σ₂ x y (compareOp op) Q)
    (hm : behindInMarks op r = false := by with_unfolding_all rfl) : WPe prog w Γ σ (.Compare l [op] [r] p) Q := by
  intro K ps s R r' hR
  exact wpAny_Compare1 (h K ps s _ r' fun x v σ₁ s₁ h₁ r₁ => h₁ K _ s₁ _ r₁ fun y u σ₂ s₂ h₂ r₂ => h₂ K ps v u s₂ R r₂ hR) hm
theorem wp_ifexp {t b o : Expr} {p : Pos} (h : WPt prog w Γ σ t fun c σ₁ => (c = true → WPe prog w Γ σ₁ b Q) ∧ (c = false → WPe prog w Γ σ₁ o Q)) : WPe prog w Γ σ (.IfExp t b o p) Q := by
  intro K ps s R r' hR
  refine wpAny_IfExp (h K ps s _ r' fun c σ₁ s₁ h₁ r₁ => ?_)
  cases c
  · exact h₁.2 rfl K ps s₁ R r₁ hR
  · exact h₁.1 rfl K ps s₁ R r₁ hR

theorem wt_compare {l r : Expr} {op : CmpOp} {p : Pos} (h : WPe prog w Γ σ l fun x σ₁ => WPe prog w Γ σ₁ r fun y σ₂ => WP2 prog w Γ σ₂ x y (compareOp op) fun z σ₃ => WB1 prog w Γ σ₃ z truthy QB)
    (hm : behindInMarks op r = false := by with_unfolding_all rfl) : WPt prog w Γ σ (.Compare l [op] [r] p) QB := by
  intro K ps s R r' hR
  exact wpAny_isTrue_Compare1 (h K ps s _ r' fun x v σ₁ s₁ h₁ r₁ => h₁ K _ s₁ _ r₁ fun y u σ₂ s₂ h₂ r₂ => h₂ K ps v u s₂ _ r₂ fun z v σ₃ s₃ h₃ r₃ => h₃ K ps v s₃ R r₃ hR) hm
theorem wt_not {x : Expr} {p : Pos} (h : WPt prog w Γ σ x fun b σ₁ => QB (!b) σ₁) : WPt prog w Γ σ (.UnaryOp .Not x p) QB := by
  intro K ps s R r' hR
  exact wpAny_isTrue_Not (h K ps s _ r' fun b σ₁ s₁ h₁ r₁ => hR _ σ₁ s₁ h₁ r₁)
theorem wt_value {e : Expr} (h : WPe prog w Γ σ e fun x σ₁ => WB1 prog w Γ σ₁ x truthy QB) (he : ∀ env whole, isTrue e env whole = (do let v ← whole; standAt e.pos; holding [v] (truthy v)) := by intros; rfl) : WPt prog w Γ σ e QB := by
  intro K ps s R r' hR
  exact wpAny_isTrue_value (h K ps s _ r' fun x v σ₁ s₁ h₁ r₁ => h₁ K ps v s₁ R r₁ hR) (he _ _)
noncomputable def WPall (prog : Program) (w : World) (Γ : Cx) (σ : St) (op : BoolOp) (es : List Expr) (Q : Bool → St → Prop) : Prop :=
  ∀ (K : Kp) (ps : List (MV × Value)) (s : Shared) (R : Bool → Shared → Prop), Rel prog w Γ K σ ps s →
    (∀ b σ' s', Q b σ' → Rel prog w Γ K σ' ps s' → R b s') → wpAny (model prog w) Γ.A (allTrue op es Γ.env) R (fun _ _ => False) s
theorem wt_bool {op : BoolOp} {es : List Expr} {p : Pos} (h : WPall prog w Γ σ op es QB) : WPt prog w Γ σ (.BoolOp op es p) QB := by
  intro K ps s R r' hR
  exact wpAny_isTrue_BoolOp (h K ps s _ r' hR)
theorem wall_and_nil (h : QB true σ) : WPall prog w Γ σ .And [] QB := fun _ _ s _ r hR => wpAny_allTrue_And_nil (hR _ _ s h r)
theorem wall_or_nil (h : QB false σ) : WPall prog w Γ σ .Or [] QB := fun _ _ s _ r hR => wpAny_allTrue_Or_nil (hR _ _ s h r)
theorem wall_and_cons {e : Expr} {es : List Expr} (h : WPt prog w Γ σ e fun b σ₁ => (b = true → WPall prog w Γ σ₁ .And es QB) ∧ (b = false → QB false σ₁)) : WPall prog w Γ σ .And (e :: es) QB := by
  intro K ps s R r' hR
  refine wpAny_allTrue_And_cons (h K ps s _ r' fun b σ₁ s₁ h₁ r₁ => ?_)
  cases b
  · exact hR _ _ _ (h₁.2 rfl) r₁
  · exact h₁.1 rfl K ps s₁ R r₁ hR
theorem wall_or_cons {e : Expr} {es : List Expr} (h : WPt prog w Γ σ e fun b σ₁ => (b = true → QB true σ₁) ∧ (b = false → WPall prog w Γ σ₁ .Or es QB)) : WPall prog w Γ σ .Or (e :: es) QB := by
  intro K ps s R r' hR
  refine wpAny_allTrue_Or_cons (h K ps s _ r' fun b σ₁ s₁ h₁ r₁ => ?_)
  cases b
  · exact h₁.2 rfl K ps s₁ R r₁ hR
  · exact hR _ _ _ (h₁.1 rfl) r₁
theorem wb_bool {b : Bool} (h : QB b σ) : WB1 prog w Γ σ (.bool b) truthy QB := by
  intro K ps v s R r hR
  obtain rfl := r.bool
  exact wpAny_truthy_bool (hR _ _ _ h r.drop)

section
variable {a b : Int}
theorem w2_add (h : Q (.int (a + b)) σ) : WP2 prog w Γ σ (.int a) (.int b) (binaryOp .Add) Q := by
  intro K ps v u s R r hR
  obtain ⟨t, rfl⟩ := r.int; obtain ⟨t', rfl⟩ := r.drop.int
  exact wpAny_add_int (hR _ _ _ _ h ((r.drop.drop.toks _).flat (.int _ _)))
theorem w2_mul (hm : IntMulOk a b) (h : Q (.int (a * b)) σ) : WP2 prog w Γ σ (.int a) (.int b) (binaryOp .Mult) Q := by
  intro K ps v u s R r hR
  obtain ⟨t, rfl⟩ := r.int; obtain ⟨t', rfl⟩ := r.drop.int
  exact mul_int (hR _ _ _ _ h ((r.drop.drop.toks _).flat (.int _ _))) hm
theorem w2_mod (hb : b ≠ 0) (h : Q (.int (a.fmod b)) σ) : WP2 prog w Γ σ (.int a) (.int b) (binaryOp .Mod) Q := by
  intro K ps v u s R r hR
  obtain ⟨t, rfl⟩ := r.int; obtain ⟨t', rfl⟩ := r.drop.int
  exact mod_int hb (hR _ _ _ _ h ((r.drop.drop.toks _).flat (.int _ _)))
theorem w2_lt (h : Q (.bool (decide (a < b))) σ) : WP2 prog w Γ σ (.int a) (.int b) (compareOp .Lt) Q := by
  intro K ps v u s R r hR
  obtain ⟨t, rfl⟩ := r.int; obtain ⟨t', rfl⟩ := r.drop.int
  exact lt_int (hR _ _ _ _ h (r.drop.drop.flat (.bool _)))
theorem w2_gt (h : Q (.bool (decide (b < a))) σ) : WP2 prog w Γ σ (.int a) (.int b) (compareOp .Gt) Q := by
  intro K ps v u s R r hR
  obtain ⟨t, rfl⟩ := r.int; obtain ⟨t', rfl⟩ := r.drop.int
  exact gt_int (hR _ _ _ _ h (r.drop.drop.flat (.bool _)))
theorem w2_ge (h : Q (.bool (decide (b ≤ a))) σ) : WP2 prog w Γ σ (.int a) (.int b) (compareOp .GtE) Q := by
  intro K ps v u s R r hR
  obtain ⟨t, rfl⟩ := r.int; obtain ⟨t', rfl⟩ := r.drop.int
  exact ge_int (hR _ _ _ _ h (r.drop.drop.flat (.bool _)))
theorem w2_eq (h : Q (.bool (a == b)) σ) : WP2 prog w Γ σ (.int a) (.int b) (compareOp .Eq) Q := by
  intro K ps v u s R r hR
  obtain ⟨t, rfl⟩ := r.int; obtain ⟨t', rfl⟩ := r.drop.int
  exact wpAny_eq_int (hR _ _ _ _ h (r.drop.drop.flat (.bool _)))
theorem w2_ne (h : Q (.bool (a != b)) σ) : WP2 prog w Γ σ (.int a) (.int b) (compareOp .NotEq) Q := by
  intro K ps v u s R r hR
  obtain ⟨t, rfl⟩ := r.int; obtain ⟨t', rfl⟩ := r.drop.int
  exact ne_int (hR _ _ _ _ h (r.drop.drop.flat (.bool _)))
end

section
variable {x y : Str}
theorem w2_eqs (h : Q (.bool (x == y)) σ) : WP2 prog w Γ σ (.str x) (.str y) (compareOp .Eq) Q := by
  intro K ps v u s R r hR
  obtain ⟨t, rfl⟩ := r.str; obtain ⟨t', rfl⟩ := r.drop.str
  exact PyProof.Rows.eq_str (hR _ _ _ _ h (r.drop.drop.flat (.bool _)))
theorem w2_nes (h : Q (.bool (x != y)) σ) : WP2 prog w Γ σ (.str x) (.str y) (compareOp .NotEq) Q := by
  intro K ps v u s R r hR
  obtain ⟨t, rfl⟩ := r.str; obtain ⟨t', rfl⟩ := r.drop.str
  exact PyProof.Rows.ne_str (hR _ _ _ _ h (r.drop.drop.flat (.bool _)))
theorem w2_cat (hz : x.length + y.length ≤ sizeLine) (h : Q (.str (x ++ y)) σ) : WP2 prog w Γ σ (.str x) (.str y) (binaryOp .Add) Q := by
  intro K ps v u s R r hR
  obtain ⟨t, rfl⟩ := r.str; obtain ⟨t', rfl⟩ := r.drop.str
  exact wpAny_with_toks (Nat.le_refl _) (PyProof.Rows.add_str (fun _ _ ht => hR _ _ _ _ h ((r.drop.drop.toks _ ht).flat (.str _ _))) hz)
end

variable {prog : Program} {w : World} {Γ : Cx} {K : Kp} {σ σ' : St} {ps : List (MV × Value)} {s : Shared} {F : Frz} {m cm : Str → Option Value} {fps : List (List Addr)}
variable {Q : MV → St → Prop} {QB : Bool → St → Prop} {QF : MF → St → Prop} {QU : St → Prop} {QL : List MV → St → Prop}

theorem Rel.perm {ps' : List (MV × Value)} (h : Rel prog w Γ K σ ps s) (hp : ∀ p ∈ ps', p ∈ ps) : Rel prog w Γ K σ ps' s := let ⟨F, m, cm, fps, C⟩ := h; ⟨F, m, cm, fps, C.setps fun p q => C.ps p (hp p q)⟩

noncomputable def WPl (prog : Program) (w : World) (Γ : Cx) (σ : St) (es : List Expr) (Q : List MV → St → Prop) : Prop :=
  ∀ (pos : Pos) (K : Kp) (ps : List (MV × Value)) (s : Shared) (R : List Value → Shared → Prop), Rel prog w Γ K σ ps s →
    (∀ xs vs σ' s', Q xs σ' → vs.length = xs.length → Rel prog w Γ K σ' (xs.zip vs ++ ps) s' → R vs s') →
    wpAny (model prog w) Γ.A (spliced (backTo pos (starEach es Γ.env))) R (fun _ _ => False) s
theorem wl_nil (h : QL [] σ) : WPl prog w Γ σ [] QL := fun _ _ _ s _ r hR => wpAny_items_nil (hR [] [] σ s h rfl r)
theorem wl_cons {e : Expr} {es : List Expr} (h : WPe prog w Γ σ e fun x σ₁ => WPl prog w Γ σ₁ es fun xs σ₂ => QL (x :: xs) σ₂)
    (he : ∀ env, starEach (e :: es) env = (false, eval e env) :: starEach es env := by intro _; rfl) : WPl prog w Γ σ (e :: es) QL := by
  intro pos K ps s R r hR
  refine wpAny_items_cons (h K ps s _ r fun x v σ₁ s₁ h₁ r₁ => h₁ pos K _ s₁ _ r₁ fun xs vs σ₂ s₂ h₂ hl r₂ => ?_) (he _)
  refine hR (x :: xs) (v :: vs) σ₂ s₂ h₂ (by simp [hl]) (r₂.perm fun p hp => ?_)
  simp only [List.zip_cons_cons, List.cons_append, List.mem_cons, List.mem_append] at hp ⊢
  rcases hp with h | h | h
  · exact .inr (.inl h)
  · exact .inl h
  · exact .inr (.inr h)
theorem Rel.mk_list {xs : List MV} {vs : List Value} (hl : vs.length = xs.length) (h : Rel prog w Γ K σ (xs.zip vs ++ ps) s) :
    Rel prog w Γ K σ ((.list xs, .ref s.heap.objs.size) :: ps) { s with heap := s.heap.push (listO vs 0) } := by
  obtain ⟨F, m, cm, fps, C⟩ := h
  have hz := C.zip hl rfl
  refine ⟨_, m, cm, fps, ((C.alloc (listO vs 0)).setps (ps' := ps) fun p hp => ?_).cons ?_⟩
  · exact (C.ps p (List.mem_append_right _ hp)).mono (Frz.put_sub C.noneF) fun _ _ e => e
  · have hz' := VRs.mono (Frz.put_sub (o := listO vs 0) C.noneF) (fun _ _ e => e) hz
    exact .list _ xs vs 0 Frz.put_self hz'.1 hz'.2
theorem Rel.mk_tup {xs : List MV} {vs : List Value} (hl : vs.length = xs.length) (h : Rel prog w Γ K σ (xs.zip vs ++ ps) s) :
    Rel prog w Γ K σ ((.tup xs, .ref s.heap.objs.size) :: ps) { s with heap := s.heap.push (tupO vs 0) } := by
  obtain ⟨F, m, cm, fps, C⟩ := h
  have hz := C.zip hl rfl
  refine ⟨_, m, cm, fps, ((C.alloc (tupO vs 0)).setps (ps' := ps) fun p hp => ?_).cons ?_⟩
  · exact (C.ps p (List.mem_append_right _ hp)).mono (Frz.put_sub C.noneF) fun _ _ e => e
  · have hz' := VRs.mono (Frz.put_sub (o := tupO vs 0) C.noneF) (fun _ _ e => e) hz
    exact .tup _ xs vs 0 Frz.put_self hz'.1 hz'.2
theorem wp_tuple {es : List Expr} {k : Nat} {p : Pos} (h : WPl prog w Γ σ es fun xs σ₁ => xs.length ≤ sizeLine ∧ Q (.tup xs) σ₁) : WPe prog w Γ σ (.Tuple es k p) Q := by
  intro K ps s R r hR
  refine wpAny_Tuple (h p K ps s _ r fun xs vs σ₁ s₁ h₁ hl r₁ => ⟨by rw [hl]; exact h₁.1, hR _ _ _ _ h₁.2 (r₁.mk_tup hl)⟩)
theorem wp_list {es : List Expr} {p : Pos} (h : WPl prog w Γ σ es fun xs σ₁ => xs.length ≤ sizeLine ∧ Q (.list xs) σ₁) : WPe prog w Γ σ (.List es p) Q := by
  intro K ps s R r hR
  refine wpAny_List (h p K ps s _ r fun xs vs σ₁ s₁ h₁ hl r₁ => ⟨by rw [hl]; exact h₁.1, hR _ _ _ _ h₁.2 (r₁.mk_list hl)⟩)

theorem WP1.to_store {x : Str} {mv : MV} {l' : List (Str × MV)} (hp : Put x mv σ.loc l') (h : QU { σ with loc := l' }) : WU1 prog w Γ σ mv (storeName Γ.env x) QU := by
  rintro K ps v s R ⟨F, m, cm, fps, C⟩ hR
  obtain ⟨l₁, l₂, old, e1, e2⟩ := hp.split
  subst e2
  have hv := C.ps (mv, v) (.head _)
  have C := C.drop
  obtain ⟨hd, hk⟩ := C.ok.kinds x (C.keys ▸ by rw [e1]; simp)
  rcases hk with hk | ⟨hk, c, hc⟩
  · exact wpAny_storeName_local hk C.ns (fun h' hn hs => hR _ _ h ⟨F, _, cm, fps, C.storeL e1 hk hv hn hs _⟩) (by rw [C.ok.kind]; rfl)
  · exact wpAny_storeName_cell C.ok.kind hk (C.ok.ocs _ _ hc) (C.cell x c hc) (fun h' hn hs => hR _ _ h ⟨F, m, _, fps, C.storeC e1 hk hc hv hn hs _⟩)
theorem wa_name {x : Str} {p : Pos} {mv : MV} {l' : List (Str × MV)} (hp : Put x mv σ.loc l') (h : QU { σ with loc := l' }) : WU1 prog w Γ σ mv (assign (.Name x p) Γ.env) QU := by
  intro K ps v s R r hR
  exact assign_Name (WP1.to_store hp h K ps v s R r hR)
noncomputable def WAL (Q : St → Prop) : List Expr → List MV → St → Prop
  | [], [], σ => Q σ
  | .Name x _ :: es, mv :: xs, σ => PutQ x mv σ.loc fun l' => WAL Q es xs { σ with loc := l' }
  | _, _, _ => False
theorem WAL.len : ∀ {es : List Expr} {xs : List MV} {σ : St}, WAL QU es xs σ → (assignEach es Γ.env).length = xs.length ∧ (assignEach es Γ.env).findIdx? (·.1) = none
  | [], [], _, _ => ⟨rfl, rfl⟩
  | [], _ :: _, _, h => by simp [WAL] at h
  | e :: es, xs, σ, h => by
    cases e <;> (try (simp [WAL] at h; done))
    cases xs with
    | nil => simp [WAL] at h
    | cons x xs =>
      obtain ⟨l', _, h⟩ := h
      obtain ⟨h1, h2⟩ := WAL.len h
      refine ⟨by simp only [assignEach, List.length_cons, h1], ?_⟩
      simp only [assignEach, List.findIdx?_cons, h2]; rfl
theorem WAL.run : ∀ {es : List Expr} {xs : List MV} {σ : St}, WAL QU es xs σ → ∀ (K : Kp) (ps : List (MV × Value)) (vs : List Value) (s : Shared) (R : Unit → Shared → Prop), vs.length = xs.length → Rel prog w Γ K σ (xs.zip vs ++ ps) s →
    (∀ σ' s', QU σ' → Rel prog w Γ K σ' ps s' → R () s') → wpAny (model prog w) Γ.A (assignInOrder ((assignEach es Γ.env).map (·.2)) vs) R (fun _ _ => False) s
  | [], [], σ, h, K, ps, vs, s, R, hl, r, hR => by
    have : vs = [] := List.length_eq_zero_iff.mp hl
    subst this
    exact wpAny_pure (hR σ s h r)
  | [], _ :: _, _, h, _, _, _, _, _, _, _, _ => by simp [WAL] at h
  | e :: es, xs, σ, h, K, ps, vs, s, R, hl, r, hR => by
    cases e <;> (try (simp [WAL] at h; done))
    cases xs with
    | nil => simp [WAL] at h
    | cons x xs =>
      obtain ⟨l', hp, h⟩ := h
      cases vs with
      | nil => simp at hl
      | cons v vs =>
        simp only [assignEach, List.map_cons, assignInOrder]
        refine wpAny_bind (wpAny_holding (wa_name (QU := fun σ => WAL QU es xs σ) hp h K (xs.zip vs ++ ps) v s _ r fun σ₁ s₁ h₁ r₁ => ?_))
        exact WAL.run h₁ K ps vs s₁ R (by simpa using hl) r₁ hR
theorem Rel.tupAt {xs : List MV} {v : Value} (h : Rel prog w Γ K σ ((.tup xs, v) :: ps) s) : ∃ a vs n, v = .ref a ∧ s.heap.get? a = some (tupO vs n) ∧ vs.length = xs.length ∧ Rel prog w Γ K σ (xs.zip vs ++ ps) s := by
  obtain ⟨F, m, cm, fps, C⟩ := h
  have h2 : VR w F (rho fps) (.tup xs) v := C.ps (.tup xs, v) (.head _)
  cases h2 with
  | tup a _ vs n hF hl hh =>
    refine ⟨a, vs, n, rfl, C.frz _ _ hF, hl, F, m, cm, fps, C.setps fun p hp => ?_⟩
    rcases List.mem_append.mp hp with hp | hp
    · obtain ⟨i, hi⟩ := List.mem_iff_getElem?.mp hp
      rw [List.getElem?_zip_eq_some] at hi
      exact hh i _ _ hi.1 hi.2
    · exact C.ps p (.tail _ hp)
theorem Rel.listAt {xs : List MV} {v : Value} (h : Rel prog w Γ K σ ((.list xs, v) :: ps) s) : ∃ a vs n, v = .ref a ∧ s.heap.get? a = some (listO vs n) ∧ vs.length = xs.length ∧ Rel prog w Γ K σ (xs.zip vs ++ ps) s := by
  obtain ⟨F, m, cm, fps, C⟩ := h
  have h2 : VR w F (rho fps) (.list xs) v := C.ps (.list xs, v) (.head _)
  cases h2 with
  | list a _ vs n hF hl hh =>
    refine ⟨a, vs, n, rfl, C.frz _ _ hF, hl, F, m, cm, fps, C.setps fun p hp => ?_⟩
    rcases List.mem_append.mp hp with hp | hp
    · obtain ⟨i, hi⟩ := List.mem_iff_getElem?.mp hp
      rw [List.getElem?_zip_eq_some] at hi
      exact hh i _ _ hi.1 hi.2
    · exact C.ps p (.tail _ hp)
theorem Rel.grow {h' : Heap} (h : Rel prog w Γ K σ ps s) (hk : ∀ b o, s.heap.get? b = some o → h'.get? b = some o) (t : Nat) (ht : s.toks ≤ t := by first | exact Nat.le_refl _ | exact Nat.le_succ _ | omega | (dsimp only; omega)) : Rel prog w Γ K σ ps { s with heap := h', toks := t } :=
  let ⟨F, m, cm, fps, C⟩ := h
  ⟨F, m, cm, fps, C.grow hk (Sub.refl F) (fun b o e => hk _ _ (C.frz b o e)) (fun _ _ e => .inl e) t ht⟩
theorem Rel.handled (h : Rel prog w Γ K σ ps s) : Γ.A.handled = none := let ⟨_, _, _, _, C⟩ := h; C.ok.handled
theorem Rel.ok (h : Rel prog w Γ K σ ps s) : Γ.Ok prog w := let ⟨_, _, _, _, C⟩ := h; C.ok
theorem wa_tuple {es : List Expr} {k : Nat} {p : Pos} {xs : List MV} (h : WAL QU es xs σ) : WU1 prog w Γ σ (.tup xs) (assign (.Tuple es k p) Γ.env) QU := by
  intro K ps v s R r hR
  obtain ⟨a, vs, n, rfl, hg, hl, r'⟩ := r.tupAt
  obtain ⟨h1, h2⟩ := WAL.len (Γ := Γ) h
  refine wpAny_assign_Tuple (t := a) (items := vs.toArray) r.handled ⟨_, hg, rfl, n, rfl⟩ (by rw [h1, List.size_toArray, hl]) h2 fun h' he => ?_
  refine WAL.run h K ps _ _ R (by simpa using hl) ((r'.grow (fun b o e => ?_) _)) hR
  exact he b o (Nat.ne_of_lt (Heap.lt_size e)) e

theorem ws_nil (h : QF .next σ) : WPs prog w Γ σ [] QF := fun _ _ s _ r hR => wpAny_execs_nil (hR .next .next σ s h ⟨rfl, r⟩)
noncomputable def thenS (prog : Program) (w : World) (Γ : Cx) (bs : List Stmt) (QF : MF → St → Prop) : MF → St → Prop
  | .next, σ => WPs prog w Γ σ bs QF
  | f, σ => QF f σ
theorem then_next {bs : List Stmt} (h : WPs prog w Γ σ bs QF) : thenS prog w Γ bs QF .next σ := h
theorem then_ret {bs : List Stmt} {v : MV} (h : QF (.ret v) σ) : thenS prog w Γ bs QF (.ret v) σ := h
theorem ws_cons {b : Stmt} {bs : List Stmt} (h : WPx prog w Γ σ b (thenS prog w Γ bs QF)) : WPs prog w Γ σ (b :: bs) QF := by
  intro K ps s R r hR
  refine wpAny_execs_cons (h K ps s _ r fun mf f σ₁ s₁ h₁ r₁ => ?_)
  cases mf with
  | next => obtain ⟨rfl, r₁⟩ := r₁; exact h₁ K ps s₁ R r₁ hR
  | brk => have := r₁; obtain ⟨rfl, _⟩ := r₁; exact hR _ _ _ _ h₁ this
  | cont => have := r₁; obtain ⟨rfl, _⟩ := r₁; exact hR _ _ _ _ h₁ this
  | ret v => have := r₁; obtain ⟨v, rfl, _⟩ := r₁; exact hR _ _ _ _ h₁ this
theorem WPs.mono {b : List Stmt} {QF' : MF → St → Prop} (h : WPs prog w Γ σ b QF) (hQ : ∀ f σ, QF f σ → QF' f σ) : WPs prog w Γ σ b QF' :=
  fun K ps s R r hR => h K ps s R r fun mf f σ' s' q => hR mf f σ' s' (hQ _ _ q)
theorem wx_assign {x : Str} {p p' : Pos} {e : Expr} (h : WPe prog w Γ σ e fun mv σ₁ => PutQ x mv σ₁.loc fun l' => QF .next { σ₁ with loc := l' })
    (hs : ∀ env, swapsWith e (some (.Name x p')) p.line env = pure false := by intro _; rfl) : WPx prog w Γ σ (.Assign [.Name x p'] e p) QF := by
  intro K ps s R r hR
  refine wpAny_Assign_Name (h K ps s _ r fun mv v σ₁ s₁ h₁ r₁ => ?_) (hs _)
  obtain ⟨l', hp, h₁⟩ := h₁
  exact WP1.to_store (QU := fun σ => QF .next σ) hp h₁ K ps v s₁ _ r₁ fun σ₂ s₂ h₂ r₂ => hR .next .next σ₂ s₂ h₂ ⟨rfl, r₂⟩
theorem wx_assign_tup {es : List Expr} {k : Nat} {p p' : Pos} {e : Expr} (h : WPe prog w Γ σ e fun mv σ₁ => ∃ xs, mv = .tup xs ∧ WAL (QF .next) es xs σ₁)
    (hs : ∀ env, swapsWithSole [.Tuple es k p'] e p.line env = pure false := by intro _; rfl) (hw : swappedStores [.Tuple es k p'] e Γ.env = pure none) : WPx prog w Γ σ (.Assign [.Tuple es k p'] e p) QF := by
  intro K ps s R r hR
  refine Assign_Tuple (h K ps s _ r fun mv v σ₁ s₁ h₁ r₁ => ?_) (hs _) hw
  obtain ⟨xs, rfl, h₁⟩ := h₁
  exact wa_tuple h₁ K ps v s₁ _ r₁ fun σ₂ s₂ h₂ r₂ => hR .next .next σ₂ s₂ h₂ ⟨rfl, r₂⟩
theorem wx_if {t : Expr} {b o : List Stmt} {p : Pos} (h : WPt prog w Γ σ t fun c σ₁ => (c = true → WPs prog w Γ σ₁ b QF) ∧ (c = false → WPs prog w Γ σ₁ o QF)) : WPx prog w Γ σ (.If t b o p) QF := by
  intro K ps s R r hR
  refine wpAny_If (h K ps s _ r fun c σ₁ s₁ h₁ r₁ => ?_)
  cases c
  · exact h₁.2 rfl K ps s₁ R r₁ hR
  · exact h₁.1 rfl K ps s₁ R r₁ hR
theorem wx_return {e : Expr} {p : Pos} (h : WPe prog w Γ σ e fun mv σ₁ => QF (.ret mv) σ₁) : WPx prog w Γ σ (.Return (some e) p) QF := by
  intro K ps s R r hR
  exact wpAny_Return_some (h K ps s _ r fun mv v σ₁ s₁ h₁ r₁ => hR _ _ _ _ h₁ ⟨v, rfl, r₁⟩)
theorem wx_continue {p : Pos} (h : QF .cont σ) : WPx prog w Γ σ (.Continue p) QF := by
  intro K ps s R r hR
  exact wpAny_Continue (hR .cont .cont σ s h ⟨rfl, r⟩)
/-- an aug-assignment to a name -/
theorem wx_aug {x : Str} {p p' : Pos} {op : Operator} {e : Expr} {mv : MV} (hlk : Lk x mv σ.loc) (hu : mv.ok = true)
    (h : WPe prog w Γ σ e fun y σ₁ => WP2 prog w Γ σ₁ mv y (inplaceOp op) fun z σ₂ => PutQ x z σ₂.loc fun l' => QF .next { σ₂ with loc := l' }) : WPx prog w Γ σ (.AugAssign (.Name x p') op e p) QF := by
  intro K ps s R r hR
  refine wpAny_AugAssign_Name ?_
  have hx := hlk.mem
  obtain ⟨F, m, cm, fps, C⟩ := r
  obtain ⟨v, h1, h2, h3⟩ := (C.loc x mv hx).resolve_left (MV.ne hu)
  obtain ⟨hd, hk⟩ := C.ok.kinds x (C.keys ▸ List.mem_map.mpr ⟨_, hx, rfl⟩)
  have r' : Rel prog w Γ K σ ((mv, v) :: ps) s := ⟨F, m, cm, fps, C.cons h3⟩
  have go : wpAny (model prog w) Γ.A (eval e Γ.env) (fun u s₂ => wpAny (model prog w) Γ.A (inplaceOp op v u) (fun r s₃ => wpAny (model prog w) Γ.A (storeName Γ.env x r) (fun _ => R .next) (fun _ _ => False) s₃) (fun _ _ => False) s₂) (fun _ _ => False) s := by
    refine h K _ s _ r' fun y u σ₁ s₁ h₁ r₁ => h₁ K ps v u s₁ _ r₁ fun z v' σ₂ s₂ h₂ r₂ => ?_
    obtain ⟨l', hp, h₂⟩ := h₂
    exact WP1.to_store (QU := fun σ => QF .next σ) hp h₂ K ps v' s₂ _ r₂ fun σ₂ s₂ h₂ r₂ => hR .next .next σ₂ s₂ h₂ ⟨rfl, r₂⟩
  rcases hk with hk | ⟨hk, c, hc⟩
  · exact wpAny_loadName_local C.ok.kind hk C.ns (h1 hk) go
  · exact wpAny_loadName_cell C.ok.kind hk (C.ok.ocs _ _ hc) (h2 hk ▸ C.cell x c hc) go

/-- behind a turn -/
noncomputable def turn (again : St → Prop) (QF : MF → St → Prop) : MF → St → Prop
  | .next, σ => again σ
  | .cont, σ => again σ
  | .brk, σ => QF .next σ
  | .ret v, σ => QF (.ret v) σ
theorem turn_next {P : St → Prop} (h : P σ) : turn P QF .next σ := h
noncomputable def WPw (prog : Program) (w : World) (Γ : Cx) (t : Expr) (b : List Stmt) (QF : MF → St → Prop) : Nat → St → Prop
  | 0, _ => False
  | n + 1, σ => WPt prog w Γ σ t fun c σ₁ => (c = true → WPs prog w Γ σ₁ b (turn (WPw prog w Γ t b QF n) QF)) ∧ (c = false → QF .next σ₁)
theorem wx_while {t : Expr} {b : List Stmt} {p : Pos} (n : Nat) (h : WPw prog w Γ t b QF n σ) : WPx prog w Γ σ (.While t b [] p) QF := by
  intro K ps s R r hR
  refine wpAny_While ?_
  refine codeAny_whileLoop (fun k s' => ∃ σ', WPw prog w Γ t b QF k σ' ∧ Rel prog w Γ K σ' ps s') (fun k s' hI => ?_) n ⟨σ, h, r⟩
  obtain ⟨σ', h', r'⟩ := hI
  cases k with
  | zero => exact absurd h' (by simp [WPw])
  | succ k =>
    refine wpAny_mono (h' K ps s' (fun c s₁ => if c = true then wpAny (model prog w) Γ.A (execs b Γ.env) (fun f s₃ => match f with
            | .next | .cont => ∃ m, m < k + 1 ∧ ∃ σ', WPw prog w Γ t b QF m σ' ∧ Rel prog w Γ K σ' ps s₃
            | .brk => R .next s₃
            | .ret v => R (.ret v) s₃) (fun _ _ => False) s₁ else R .next s₁) r' fun c σ₁ s₁ h₁ r₁ => ?_) (fun c s₁ h₁ => ?_) (fun _ _ x => x.elim)
    · cases c
      · exact hR .next .next σ₁ s₁ (h₁.2 rfl) ⟨rfl, r₁⟩
      · refine h₁.1 rfl K ps s₁ _ r₁ fun mf f σ₂ s₂ h₂ r₂ => ?_
        cases mf with
        | next => obtain ⟨rfl, r₂⟩ := r₂; exact ⟨k, Nat.lt_succ_self k, σ₂, h₂, r₂⟩
        | cont => obtain ⟨rfl, r₂⟩ := r₂; exact ⟨k, Nat.lt_succ_self k, σ₂, h₂, r₂⟩
        | brk => obtain ⟨rfl, r₂⟩ := r₂; exact hR .next .next σ₂ s₂ h₂ ⟨rfl, r₂⟩
        | ret v => obtain ⟨v, rfl, r₂⟩ := r₂; exact hR _ _ σ₂ s₂ h₂ ⟨v, rfl, r₂⟩
    · cases c
      · exact wpAny_execs_nil h₁
      · exact wpAny_mono h₁ (fun _ _ x => x) fun _ _ x => x.elim

variable {prog : Program} {w : World} {Γ : Cx} {K : Kp} {σ σ' : St} {ps : List (MV × Value)} {s : Shared} {F : Frz} {m cm : Str → Option Value} {fps : List (List Addr)}
variable {Q : MV → St → Prop} {QB : Bool → St → Prop} {QF : MF → St → Prop} {QU : St → Prop} {QL : List MV → St → Prop}

noncomputable abbrev noρ : Nat → Option Addr := fun _ => none
/-- a value that bears nothing that turns -/
noncomputable def Closed (x : MV) : Prop := ∀ w F ρ v, VR w F ρ x v → VR w F noρ x v
theorem Closed.none : Closed .none := fun _ _ _ _ h => by cases h; exact .none
theorem Closed.bool {b : Bool} : Closed (.bool b) := fun _ _ _ _ h => by cases h; exact .bool b
theorem Closed.int {i : Int} : Closed (.int i) := fun _ _ _ _ h => by cases h; exact .int i _
theorem Closed.str {x : Str} : Closed (.str x) := fun _ _ _ _ h => by cases h; exact .str x _
theorem Closed.obj {v : Value} : Closed (.obj v) := fun _ _ _ _ h => by cases h; exact .obj v
theorem Closed.list {xs : List MV} (hx : ∀ x ∈ xs, Closed x) : Closed (.list xs) := fun w F ρ v h => by
  cases h with | list a _ vs n hF hl hh => exact .list a xs vs n hF hl fun i x v h1 h2 => hx x (List.mem_of_getElem? h1) w F ρ v (hh i x v h1 h2)
theorem Closed.tup {xs : List MV} (hx : ∀ x ∈ xs, Closed x) : Closed (.tup xs) := fun w F ρ v h => by
  cases h with | tup a _ vs n hF hl hh => exact .tup a xs vs n hF hl fun i x v h1 h2 => hx x (List.mem_of_getElem? h1) w F ρ v (hh i x v h1 h2)
theorem Closed.dictI {es : List (Int × MV)} (hx : ∀ x ∈ es, Closed x.2) : Closed (.dictI es) := fun w F ρ v h => by
  cases h with | dictI a _ ds n hF hm hl hk hh => exact .dictI a es ds n hF hm hl hk fun i x v h1 h2 => hx x (List.mem_of_getElem? h1) w F ρ _ (hh i x v h1 h2)

/-- a call that writes into nothing that stood before it -/
noncomputable def PureFn (prog : Program) (w : World) (ℓ : Nat) (hB : Heap) (f : Value) (args : List MV) (P : MV → Prop) : Prop :=
  ∀ (A : Around) (F : Frz) (s : Shared) (vs : List Value) (R : Result → Shared → Prop), A.depth + ℓ < recursionLimit → A.units + 20 * ℓ < cLine → A.handled = none → 1 ≤ s.toks →
    (∀ b o, hB.get? b = some o → F b = some o) → (∀ b o, F b = some o → s.heap.get? b = some o) → VRs w F noρ args vs →
    (∀ mv v h' tk F', P mv → s.toks ≤ tk → (∀ b o, s.heap.get? b = some o → h'.get? b = some o) → Sub F F' → (∀ b o, F' b = some o → h'.get? b = some o) →
      (∀ b o, F' b = some o → F b = some o ∨ s.heap.get? b = none) → VR w F' noρ mv v → R (.ok (.ret v)) { s with heap := h', toks := tk }) →
    codeAny (model prog w) A (.call f ⟨vs, []⟩) R s
theorem bindL_other {kd : Str → Option NameKind} : ∀ {binds : List (Str × Value)} {x : Str} {m : Str → Option Value}, x ∉ binds.map (·.1) → bindL kd binds m x = m x
  | [], _, _, _ => rfl
  | (y, v) :: l, x, m, h => by
    rw [List.map_cons, List.mem_cons, not_or] at h
    unfold bindL
    rw [bindL_other h.2]
    split
    · exact if_neg h.1
    · rfl
theorem bindC_other {kd : Str → Option NameKind} : ∀ {binds : List (Str × Value)} {x : Str} {m : Str → Option Value}, x ∉ binds.map (·.1) → bindC kd binds m x = m x
  | [], _, _, _ => rfl
  | (y, v) :: l, x, m, h => by
    rw [List.map_cons, List.mem_cons, not_or] at h
    unfold bindC
    rw [bindC_other h.2]
    split
    · rfl
    · exact if_neg h.1
theorem bindL_mem {kd : Str → Option NameKind} : ∀ {binds : List (Str × Value)} {x : Str} {v : Value} {m : Str → Option Value}, (x, v) ∈ binds → (binds.map (·.1)).Nodup → kd x = some .local → bindL kd binds m x = some v
  | (y, u) :: l, x, v, m, h, hn, hk => by
    rw [List.map_cons, List.nodup_cons] at hn
    rcases List.mem_cons.mp h with h | h
    · cases h
      unfold bindL
      rw [bindL_other hn.1, if_pos hk]; exact if_pos rfl
    · unfold bindL; exact bindL_mem h hn.2 hk
theorem bindC_mem {kd : Str → Option NameKind} : ∀ {binds : List (Str × Value)} {x : Str} {v : Value} {m : Str → Option Value}, (x, v) ∈ binds → (binds.map (·.1)).Nodup → kd x = some .cell → bindC kd binds m x = some v
  | (y, u) :: l, x, v, m, h, hn, hk => by
    rw [List.map_cons, List.nodup_cons] at hn
    rcases List.mem_cons.mp h with h | h
    · cases h
      unfold bindC
      rw [bindC_other hn.1, if_neg (by rw [hk]; decide)]; exact if_pos rfl
    · unfold bindC; exact bindC_mem h hn.2 hk
theorem cellsFrom_fst : ∀ (names : List (Str × NameKind)) (n : Nat) (acc : List (Str × Addr)), (cellsFrom n names acc).map (·.1) = ((names.filter (·.2 == .cell)).map (·.1)).reverse ++ acc.map (·.1)
  | [], _, _ => rfl
  | (x, k) :: r, n, acc => by
    unfold cellsFrom
    by_cases h : (k == .cell) = true
    · rw [if_pos h, cellsFrom_fst r]; simp [h]
    · rw [if_neg h, cellsFrom_fst r]; simp [h]
theorem lookup_of_mem {α : Type} : ∀ {l : List (Str × α)} {x : Str} {v : α}, (x, v) ∈ l → (l.map (·.1)).Nodup → l.lookup x = some v
  | (y, u) :: l, x, v, h, hn => by
    rw [List.map_cons, List.nodup_cons] at hn
    rw [List.lookup_cons]
    rcases List.mem_cons.mp h with h' | h'
    · cases h'; simp
    · have : (x == y) = false := by
        refine beq_false_of_ne fun e => hn.1 ?_
        subst e; exact List.mem_map.mpr ⟨_, h', rfl⟩
      rw [this]; exact lookup_of_mem h' hn.2

/-- what is known of the top: the globals that a text reads -/
noncomputable def GlobOk (prog : Program) (w : World) (sc : Scope) (hB : Heap) (glob : List (Str × MV)) : Prop :=
  ∀ x mv, (x, mv) ∈ glob → ∃ v, VR w (fun b => hB.get? b) noρ mv v ∧ ∀ (env : Env) (A : Around) (E : Value → Shared → Prop) (s : Shared) (Q : Value → Shared → Prop) (p : Pos), env.scope = sc → env.globals = mainGlobals → env.builtins = builtinsNs →
    (∀ b o, hB.get? b = some o → s.heap.get? b = some o) → Q v s → wpAny (model prog w) A (eval (.Name x p) env) Q E s

/-- the static side of a text -/
structure ScopeOk (sc : Scope) (names : List Str) : Prop where
  kind : sc.kind = .function
  nodup : names.Nodup
  kinds : ∀ x ∈ names, (x == ("__debug__" : Str)) = false ∧ (sc.names.lookup x = some .local ∨ (sc.names.lookup x = some .cell ∧ x ∈ (sc.names.filter (·.2 == .cell)).map (·.1)))
  cells : ((sc.names.filter (·.2 == .cell)).map (·.1)).Nodup

noncomputable def Γof (sc : Scope) (Γ : Cx) (hB : Heap) (ℓ : Nat) (glob : List (Str × MV)) : Prop :=
  Γ.env.scope = sc ∧ (∀ b o, hB.get? b = some o → Γ.hB b = some o) ∧ Γ.glob = glob ∧ Γ.A.depth + ℓ < recursionLimit ∧ Γ.A.units + 20 * ℓ < cLine ∧ Γ.env.globals = mainGlobals ∧ Γ.env.builtins = builtinsNs

theorem call_cellsT {A : Around} {R : Result → Shared → Prop} {a : Addr} {o : Obj} {fd : FuncData} {body : List Stmt} {vals : List Value} {binds : List (Str × Value)}
    (hroom : A.depth < recursionLimit) (ho : s.heap.get? a = some o) (hdata : o.data = .func fd) (hlim : s.heap.NoLimit) (hcd : s.heap.CodeRec fd.code fd.qualname)
    (hbody : fd.body = .stmts body) (hbind : bindArgs fd ⟨vals, []⟩ = pure binds) (hclo : fd.closure = [])
    (hkind : ∀ x ∈ binds, fd.scope.names.lookup x.1 = some .local ∨ (fd.scope.names.lookup x.1 = some .cell ∧ ((cellsFrom (s.heap.objs.size + 1) fd.scope.names []).lookup x.1).isSome = true))
    (h : ∀ s₁, s.toks ≤ s₁.toks → InCallC s (callEnvC fd s.heap.objs.size a).locals (bindL (callEnvC fd s.heap.objs.size a).kindOf binds fun _ => none) (callEnvC fd s.heap.objs.size a).cells
        (bindC (callEnvC fd s.heap.objs.size a).kindOf binds fun _ => none) s₁ →
      wpAny (model prog w) (A.deeper (callEnvC fd s.heap.objs.size a)) (execs body (callEnvC fd s.heap.objs.size a)) (fun f s' => R (.ok (.ret (match f with | .ret v => v | _ => .none))) s') (fun _ _ => False) s₁)
    (hco : fd.scope.isCoroutine = false) (hgen : fd.scope.isGenerator = false) (hk : fd.scope.kind = .function) :
    codeAny (model prog w) A (.call (.ref a) ⟨vals, []⟩) R s := by
  refine codeAny_call_function hroom ho hdata hco hgen hbody hcd ?_
  rw [hbind, hclo]
  refine wpAny_pure (wpAny_with_toks (Nat.le_refl _) (wpAny_newFunctionEnv_cells hk hkind fun env he s' x ht => ?_))
  subst he
  exact ⟨hlim.keeps x.toInCall.keep, codeAny_func (wpAny_mono (h s' ht x) (fun _ _ q => q) fun _ _ q => q.elim)⟩

theorem PureFn.of_def {ℓ : Nat} {hB : Heap} {f : Addr} {oc : Value} {od : Option Addr} {fd : FuncData} {osl : Array (Option Value)} {body : List Stmt} {params rest : List Str} {args : List MV} {P : MV → Prop} {glob : List (Str × MV)}
    (ho : hB.get? f = some ⟨oc, od, .func fd, osl⟩) (hcode : hB.CodeRec fd.code fd.qualname) (hlim : hB.NoLimit) (hbody : fd.body = .stmts body) (hclo : fd.closure = [])
    (hgl : fd.globals = mainGlobals) (hbi : fd.builtins = builtinsNs)
    (hbind : ∀ vs, vs.length = params.length → bindArgs fd ⟨vs, []⟩ = pure (params.zip vs)) (hlen : args.length = params.length)
    (hsc : ScopeOk fd.scope (params ++ rest)) (hglob : GlobOk prog w fd.scope hB glob)
    (hco : fd.scope.isCoroutine = false) (hgen : fd.scope.isGenerator = false)
    (h : ∀ Γ : Cx, Γof fd.scope Γ hB ℓ glob → WPs prog w Γ ⟨params.zip args ++ rest.map (fun x => (x, .undef)), []⟩ body fun fl _ => match fl with | .ret mv => Closed mv ∧ P mv | .next => P .none | _ => False) :
    PureFn prog w (ℓ + 1) hB (.ref f) args P := by
  intro A F s vs R hd hu hh htk hB1 hF hvs hR
  have hkd : ∀ (L a : Addr) x, (callEnvC fd L a).kindOf x = fd.scope.names.lookup x := fun _ _ _ => rfl
  have hcn : ((cellsFrom (s.heap.objs.size + 1) fd.scope.names []).map (·.1)).Nodup := by
    rw [cellsFrom_fst, List.map_nil, List.append_nil]
    unfold List.Nodup
    rw [List.pairwise_reverse]
    exact List.Pairwise.imp (fun h e => h e.symm) hsc.cells
  have hmem : ∀ x v, (x, v) ∈ params.zip vs → x ∈ params := fun x v hx => (List.of_mem_zip hx).1
  have hnp : params.Nodup := (List.nodup_append.mp hsc.nodup).1
  have hzf : (params.zip vs).map (·.1) = params := by
    rw [List.map_fst_zip]
    rw [hvs.1, hlen]; exact Nat.le_refl _
  refine call_cellsT (by omega) (hF _ _ (hB1 _ _ ho)) rfl (hlim.keeps fun b o e => hF _ _ (hB1 _ _ e)) (hcode.keeps fun b o e => hF _ _ (hB1 _ _ e)) hbody (hbind vs (hvs.1.trans hlen)) hclo (fun x hx => ?_) (fun s₁ htk₁ I => ?_) hco hgen hsc.kind
  · have hx' := (hsc.kinds x.1 (List.mem_append_left _ (hmem x.1 x.2 hx))).2
    refine hx'.imp id fun ⟨a, b⟩ => ⟨a, ?_⟩
    have : x.1 ∈ (cellsFrom (s.heap.objs.size + 1) fd.scope.names []).map (·.1) := by rw [cellsFrom_fst]; simpa using b
    obtain ⟨q, hq, e⟩ := List.mem_map.mp this
    obtain ⟨x1, c⟩ := q
    cases e
    rw [lookup_of_mem hq hcn]
    rfl
  · let Γ : Cx := { env := callEnvC fd s.heap.objs.size f, oc := (callEnvC fd s.heap.objs.size f).cells, A := A.deeper (callEnvC fd s.heap.objs.size f), hB := fun b => hB.get? b, hX := fun _ => none, glob := glob, names := params ++ rest, sh := s, F0 := F, fps0 := [], lo := s.toks }
    have hΓ : Γof fd.scope Γ hB ℓ glob := ⟨rfl, fun _ _ e => e, rfl, by show A.depth + 1 + ℓ < recursionLimit; omega, by show A.units + 3 + 20 * ℓ < cLine; omega, hgl, hbi⟩
    have hL : ∀ b, s.heap.objs.size ≤ b → s.heap.get? b = none := fun b hb => by
      cases q : s.heap.get? b with
      | none => rfl
      | some o => exact absurd (Heap.lt_size q) (Nat.not_lt.mpr hb)
    have hap := I.apart
    have habove := I.above
    have hcl : (callEnvC fd s.heap.objs.size f).locals = s.heap.objs.size := rfl
    have hhot : ∀ b ∈ Γ.hot [] [], s.heap.objs.size ≤ b := fun b hb => by
      rcases List.mem_cons.mp hb with h | h
      · rw [h]; exact Nat.le_refl _
      · rcases List.mem_append.mp h with h | h
        · obtain ⟨q, hq, e⟩ := List.mem_map.mp h
          have := habove q.1 q.2 hq
          rw [hcl] at this
          subst e; exact Nat.le_of_lt this
        · simp [alive] at h
    have hne : ∀ b o, s.heap.get? b = some o → b ∉ Γ.hot [] [] := fun b o e hb => by
      have := hL b (hhot b hb); rw [this] at e; cases e
    obtain ⟨h₁, tk₁, hs₁⟩ := I.toInCall.same
    have C : Core prog w Γ ⟨fun b => s.heap.get? b, []⟩ ⟨params.zip args ++ rest.map (fun x => (x, .undef)), []⟩ [] s₁ F (bindL (callEnvC fd s.heap.objs.size f).kindOf (params.zip vs) fun _ => none) (bindC (callEnvC fd s.heap.objs.size f).kindOf (params.zip vs) fun _ => none) [] := {
      ok := {
        kind := hsc.kind
        nodup := hsc.nodup
        kinds := fun x hx => by
          obtain ⟨a, b⟩ := hsc.kinds x hx
          refine ⟨a, b.imp id fun ⟨b1, b2⟩ => ⟨b1, ?_⟩⟩
          have : x ∈ (cellsFrom (s.heap.objs.size + 1) fd.scope.names []).map (·.1) := by rw [cellsFrom_fst]; simpa using b2
          obtain ⟨q, hq, e⟩ := List.mem_map.mp this
          obtain ⟨x1, c⟩ := q
          cases e
          exact ⟨c, lookup_of_mem hq hcn⟩
        ocs := fun _ _ e => e
        glob := fun x v hx => let ⟨u, h1, h2⟩ := hglob x v hx; ⟨u, h1, fun A E s Q p hk _ hq => h2 _ A E s Q p rfl hgl hbi hk hq⟩
        room := by show A.depth + 1 < recursionLimit; omega
        units := by show A.units + 3 + 10 < cLine; omega
        handled := hh
        lo1 := htk }
      base := hB1
      frz := fun b o e => I.toInCall.keep _ _ (hF _ _ e)
      frzH := fun b o e => hne b o (hF _ _ e)
      kept := fun b o e => I.toInCall.keep _ _ e
      keptH := fun b o e => hne b o e
      hx := fun _ _ e => by cases e
      held := fun _ hb => nomatch hb
      hot := by
        show (s.heap.objs.size :: ((cellsFrom (s.heap.objs.size + 1) fd.scope.names []).map (·.2) ++ [])).Nodup
        rw [List.append_nil]
        refine List.nodup_cons.mpr ⟨fun hm => ?_, ?_⟩
        · obtain ⟨q, hq, e⟩ := List.mem_map.mp hm
          have := habove q.1 q.2 hq
          rw [hcl] at this
          have e' : q.2 = s.heap.objs.size := e
          rw [e'] at this
          exact absurd this (Nat.lt_irrefl _)
        · unfold List.Nodup; rw [List.pairwise_map]; exact hap
      live := fun b hb => by
        rcases List.mem_cons.mp hb with h | h
        · obtain ⟨o, _, _, e, _⟩ := I.toInCall.ns; exact ⟨o, h ▸ e⟩
        · rcases List.mem_append.mp h with h | h
          · obtain ⟨q, hq, e⟩ := List.mem_map.mp h
            have := I.cell q.1 q.2 (lookup_of_mem hq hcn)
            obtain ⟨o, ho, _⟩ := this
            exact ⟨o, e ▸ ho⟩
          · simp [alive] at h
      ns := I.toInCall.ns
      cell := I.cell
      keys := by
        show (params.zip args ++ rest.map (fun x => (x, MV.undef))).map (·.1) = params ++ rest
        rw [List.map_append, List.map_fst_zip (by rw [hlen]; exact Nat.le_refl _), List.map_map]
        congr 1
        exact List.map_id' rest
      loc := fun x mv hx => by
        rcases List.mem_append.mp hx with hx | hx
        · right
          obtain ⟨i, hi⟩ := List.mem_iff_getElem?.mp hx
          rw [List.getElem?_zip_eq_some] at hi
          obtain ⟨v, hv, hvr⟩ := hvs.get hi.2
          have hz : (x, v) ∈ params.zip vs := List.mem_iff_getElem?.mpr ⟨i, List.getElem?_zip_eq_some.mpr ⟨hi.1, hv⟩⟩
          exact ⟨v, fun hk => bindL_mem hz (by rw [hzf]; exact hnp) hk, fun hk => bindC_mem hz (by rw [hzf]; exact hnp) hk, hvr.mono (Sub.refl F) fun _ _ e => by cases e⟩
        · left
          obtain ⟨y, _, e⟩ := List.mem_map.mp hx
          cases e; rfl
      len := rfl
      pre := ⟨[], rfl⟩
      trk := fun k o ho => by simp at ho
      ps := fun _ hp => nomatch hp
      tok := htk₁
      same := ⟨h₁, tk₁, hs₁⟩
      lim := fun b o e => .inl e
      ext := fun b o e => ⟨o, I.toInCall.keep _ _ e⟩
      ownL := fun k _ _ ho => by simp at ho }
    refine wpAny_mono (h Γ hΓ ⟨fun b => s.heap.get? b, []⟩ [] s₁ _ ⟨F, _, _, [], C⟩ fun mf fl σ' s' hq hr => ?_) (fun _ _ x => x) (fun _ _ x => x.elim)
    cases mf with
    | next =>
      obtain ⟨rfl, F', m', cm', fps', C'⟩ := hr
      obtain ⟨h', tk', e'⟩ := C'.same
      rw [e'] at C' ⊢
      refine hR .none .none h' tk' F hq C'.tok C'.kept (Sub.refl F) (fun b o e => C'.kept _ _ (hF _ _ e)) (fun b o e => .inl e) .none
    | brk => exact hq.elim
    | cont => exact hq.elim
    | ret mv =>
      obtain ⟨v, rfl, F', m', cm', fps', C'⟩ := hr
      obtain ⟨h', tk', e'⟩ := C'.same
      rw [e'] at C' ⊢
      refine hR mv v h' tk' (fun b => if (F b).isSome then F b else F' b) hq.2 C'.tok C'.kept (fun b o e => by simp [e]) (fun b o e => ?_) (fun b o e => ?_) ?_
      · split at e
        · exact C'.kept _ _ (hF _ _ e)
        · exact C'.frz b o e
      · split at e
        · exact .inl e
        · exact C'.lim b o e
      · refine (hq.1 w F' _ v (C'.ps (mv, v) (.head _))).mono (fun b o e => ?_) fun _ _ e => e
        split
        · rename_i hb
          obtain ⟨o', ho'⟩ := Option.isSome_iff_exists.mp hb
          have h1 := C'.kept b o' (hF _ _ ho')
          have h2 := C'.frz b o e
          rw [h1] at h2; cases h2; exact ho'
        · exact e

variable {prog : Program} {w : World} {Γ : Cx} {K : Kp} {σ σ' : St} {ps : List (MV × Value)} {s : Shared} {F : Frz} {m cm : Str → Option Value} {fps : List (List Addr)}
variable {Q : MV → St → Prop} {QB : Bool → St → Prop} {QF : MF → St → Prop} {QU : St → Prop} {QL : List MV → St → Prop}

noncomputable def WAN (Q : St → Prop) : List Str → List MV → St → Prop
  | [], [], σ => Q σ
  | x :: es, mv :: xs, σ => PutQ x mv σ.loc fun l' => WAN Q es xs { σ with loc := l' }
  | _, _, _ => False
theorem WAN.run : ∀ {es : List Str} {xs : List MV} {σ : St}, WAN QU es xs σ → ∀ (K : Kp) (ps : List (MV × Value)) (vs : List Value) (s : Shared) (R : Unit → Shared → Prop), vs.length = xs.length → Rel prog w Γ K σ (xs.zip vs ++ ps) s →
    (∀ σ' s', QU σ' → Rel prog w Γ K σ' ps s' → R () s') → wpAny (model prog w) Γ.A (assignInOrder (es.map fun n => bindName Γ.env n) vs) R (fun _ _ => False) s
  | [], [], σ, h, K, ps, vs, s, R, hl, r, hR => by
    have : vs = [] := List.length_eq_zero_iff.mp hl
    subst this
    exact wpAny_pure (hR σ s h r)
  | [], _ :: _, _, h, _, _, _, _, _, _, _, _ => by simp [WAN] at h
  | _ :: _, [], _, h, _, _, _, _, _, _, _, _ => by simp [WAN] at h
  | x :: es, mv :: xs, σ, h, K, ps, vs, s, R, hl, r, hR => by
    obtain ⟨l', hp, h⟩ := h
    cases vs with
    | nil => simp at hl
    | cons v vs =>
      simp only [List.map_cons, assignInOrder]
      refine wpAny_bind (wpAny_holding (wpAny_bindName (WP1.to_store (QU := fun σ => WAN QU es xs σ) hp h K (xs.zip vs ++ ps) v s _ r fun σ₁ s₁ h₁ r₁ => ?_)))
      exact WAN.run h₁ K ps vs s₁ R (by simpa using hl) r₁ hR
theorem wx_assign_swap {es : List Expr} {k : Nat} {p p' : Pos} {e : Expr} (names : List Str) (h : WPe prog w Γ σ e fun mv σ₁ => ∃ xs, mv = .tup xs ∧ xs.length = names.length ∧ WAN (QF .next) names.reverse xs.reverse σ₁)
    (hs : ∀ env, swapsWithSole [.Tuple es k p'] e p.line env = pure false := by intro _; rfl) (hw : swappedStores [.Tuple es k p'] e Γ.env = pure (some names)) : WPx prog w Γ σ (.Assign [.Tuple es k p'] e p) QF := by
  intro K ps s R r hR
  refine Assign_Tuple_swapped (h K ps s _ r fun mv v σ₁ s₁ h₁ r₁ => ?_) (hs _) hw
  obtain ⟨xs, rfl, hxn, h₁⟩ := h₁
  obtain ⟨a, vs, n, rfl, hg, hl, r'⟩ := r₁.tupAt
  have hn : names.length = vs.toArray.size := by rw [List.size_toArray, hl, hxn]
  rw [hn]
  refine wpAny_unpackItems_tuple r₁.handled ⟨_, hg, rfl, n, rfl⟩ fun h' he => ?_
  refine WAN.run h₁ K ps _ _ _ (by simp [hl]) (((r'.grow (fun b o e => he b o (Nat.ne_of_lt (Heap.lt_size e)) e) _)).perm fun q hq => ?_) fun σ₂ s₂ h₂ r₂ => hR .next .next σ₂ s₂ h₂ ⟨rfl, r₂⟩
  rcases List.mem_append.mp hq with hq | hq
  · refine List.mem_append_left _ ?_
    have hz : (xs.reverse.zip vs.toArray.toList.reverse) = (xs.zip vs).reverse := (List.reverse_zipWith (f := Prod.mk) (by simp [hl])).symm
    rw [hz] at hq
    exact List.mem_reverse.mp hq
  · exact List.mem_append_right _ hq

theorem wx_swap2 {es : List Expr} {k : Nat} {p p' : Pos} {e : Expr} (x y : Str) (h : WPe prog w Γ σ e fun mv σ₁ => ∃ a b, mv = .tup [a, b] ∧ PutQ y b σ₁.loc fun l' => PutQ x a l' fun l'' => QF .next { σ₁ with loc := l'' })
    (hs : ∀ env, swapsWithSole [.Tuple es k p'] e p.line env = pure false) (hw : swappedStores [.Tuple es k p'] e Γ.env = pure (some [x, y])) : WPx prog w Γ σ (.Assign [.Tuple es k p'] e p) QF :=
  wx_assign_swap [x, y] (h.mono fun _ _ ⟨a, b, e, l', h1, l'', h2, q⟩ => ⟨[a, b], e, rfl, l', h1, l'', h2, q⟩) hs hw
theorem tup2_intro {a b : MV} {P : MV → MV → Prop} (h : P a b) : ∃ a' b', MV.tup [a, b] = .tup [a', b'] ∧ P a' b' := ⟨a, b, rfl, h⟩
theorem tup_intro {xs : List MV} {P : List MV → Prop} (h : P xs) : ∃ xs', MV.tup xs = .tup xs' ∧ P xs' := ⟨xs, rfl, h⟩
theorem wal_nil (h : QU σ) : WAL QU [] [] σ := h
theorem wal_cons {x : Str} {p : Pos} {es : List Expr} {mv : MV} {xs : List MV} (h : PutQ x mv σ.loc fun l' => WAL QU es xs { σ with loc := l' }) : WAL QU (.Name x p :: es) (mv :: xs) σ := h

section
variable {a b : Int} {x y : Str}
theorem w2_iadd (h : Q (.int (a + b)) σ) : WP2 prog w Γ σ (.int a) (.int b) (inplaceOp .Add) Q := by
  intro K ps v u s R r hR
  obtain ⟨t, rfl⟩ := r.int; obtain ⟨t', rfl⟩ := r.drop.int
  exact iadd_int (hR _ _ _ _ h ((r.drop.drop.toks _).flat (.int _ _)))
theorem w2_isub (h : Q (.int (a - b)) σ) : WP2 prog w Γ σ (.int a) (.int b) (inplaceOp .Sub) Q := by
  intro K ps v u s R r hR
  obtain ⟨t, rfl⟩ := r.int; obtain ⟨t', rfl⟩ := r.drop.int
  exact isub_int (hR _ _ _ _ h ((r.drop.drop.toks _).flat (.int _ _)))
theorem w2_icat (hz : x.length + y.length ≤ sizeLine) (h : Q (.str (x ++ y)) σ) : WP2 prog w Γ σ (.str x) (.str y) (inplaceOp .Add) Q := by
  intro K ps v u s R r hR
  obtain ⟨t, rfl⟩ := r.str; obtain ⟨t', rfl⟩ := r.drop.str
  exact wpAny_with_toks (Nat.le_refl _) (PyProof.Rows.iadd_str (fun _ _ ht => hR _ _ _ _ h ((r.drop.drop.toks _ ht).flat (.str _ _))) hz)
theorem w2_div (hb : b ≠ 0) (hs : b.natAbs < 1073741824) (h : Q (.int (a.fdiv b)) σ) : WP2 prog w Γ σ (.int a) (.int b) (binaryOp .FloorDiv) Q := by
  intro K ps v u s R r hR
  obtain ⟨t, rfl⟩ := r.int; obtain ⟨t', rfl⟩ := r.drop.int
  exact floordiv_int hb (hR _ _ _ _ h ((r.drop.drop.toks _).flat (.int _ _))) (.inl (PyProof.noPylong_small hs))
end

noncomputable def IsFn (hB : Heap) (f : Addr) (qual : Str) (st : Stmt) : Prop := ∃ oc od osl pm cdv ct doc,
  hB.get? f = some ⟨oc, od, .func (fnOf (fName st) qual (fArgs st) (fBody st) (fScope st) .none .none doc pm none cdv ct), osl⟩ ∧ hB.CodeRec cdv qual

structure TopF (hB : Heap) (mg mb : Str → Option Value) : Prop where
  g : hB.Ns mainGlobals mg
  b : hB.Ns builtinsNs mb
  nolimit : hB.NoLimit
noncomputable def GlobAt (w : World) (hB : Heap) (mg mb : Str → Option Value) (sc : Scope) (p : Str × MV) : Prop :=
  (p.1 == ("__debug__" : Str)) = false ∧ sc.names.lookup p.1 = some .globalImplicit ∧ ∃ v, VR w (fun b => hB.get? b) noρ p.2 v ∧ (mg p.1 = some v ∨ (mg p.1 = none ∧ mb p.1 = some v))
theorem GlobOk.of {hB : Heap} {mg mb : Str → Option Value} (T : TopF hB mg mb) {sc : Scope} (hk : sc.kind = .function) {glob : List (Str × MV)} (h : ∀ p ∈ glob, GlobAt w hB mg mb sc p) : GlobOk prog w sc hB glob := by
  intro x mv hx
  obtain ⟨h1, h2, v, hv, h3⟩ := h _ hx
  refine ⟨v, hv, fun env A E s Q p he hg hb hs hq => ?_⟩
  subst he
  rcases h3 with h3 | ⟨h3, h4⟩
  · exact Calls.Name_function_global hk h2 (Calls.loadGlobal_global (hg ▸ T.g.keeps hs) h3 hq) h1
  · exact Calls.Name_function_global hk h2 (Calls.loadGlobal_builtin (hg ▸ T.g.keeps hs) h3 (hb ▸ T.b.keeps hs) h4 hq) h1

theorem PureFn.of_stmt {ℓ : Nat} {hB : Heap} {mg mb : Str → Option Value} (T : TopF hB mg mb) {f : Addr} {qual : Str} {st : Stmt} (hf : IsFn hB f qual st) (params rest : List Str) {args : List MV} {P : MV → Prop} (glob : List (Str × MV))
    (hbind : ∀ doc pm cdv ct vs, vs.length = params.length → bindArgs (fnOf (fName st) qual (fArgs st) (fBody st) (fScope st) .none .none doc pm none cdv ct) ⟨vs, []⟩ = pure (params.zip vs)) (hlen : args.length = params.length)
    (hsc : ScopeOk (fScope st) (params ++ rest)) (hglob : ∀ p ∈ glob, GlobAt w hB mg mb (fScope st) p)
    (hco : (fScope st).isCoroutine = false) (hgen : (fScope st).isGenerator = false)
    (h : ∀ Γ : Cx, Γof (fScope st) Γ hB ℓ glob → WPs prog w Γ ⟨params.zip args ++ rest.map (fun x => (x, .undef)), []⟩ (fBody st) fun fl _ => match fl with | .ret mv => Closed mv ∧ P mv | .next => P .none | _ => False) :
    PureFn prog w (ℓ + 1) hB (.ref f) args P := by
  obtain ⟨oc, od, osl, pm, cdv, ct, doc, h1, h2⟩ := hf
  exact PureFn.of_def h1 h2 T.nolimit rfl rfl rfl rfl (hbind doc pm cdv ct) hlen hsc (GlobOk.of T hsc.kind hglob) hco hgen h

variable {prog : Program} {w : World} {Γ : Cx} {K : Kp} {σ σ' : St} {ps : List (MV × Value)} {s : Shared} {F : Frz} {m cm : Str → Option Value} {fps : List (List Addr)}
variable {Q : MV → St → Prop} {QB : Bool → St → Prop} {QF : MF → St → Prop} {QU : St → Prop} {QL : List MV → St → Prop}

theorem evalArgs_list {f : Value} {args : List (Bool × Sem Value)} {M : Model} {A : Around} {E : Value → Shared → Prop} {Q : Args → Shared → Prop} (hp : args.any (·.1) = false)
    (h : wpAny M A (spliced args) (fun vs s' => Q ⟨vs, []⟩ s') E s) : wpAny M A (evalArgs f true args []) Q E s := by
  cases args with
  | nil =>
    unfold evalArgs
    show wpAny M A (spliced [] >>= _) Q E s
    refine wpAny_bind (wpAny_mono h (fun vs s' h' => ?_) fun _ _ x => x)
    refine wpAny_bind (wpAny_pure (wpAny_holding ?_))
    exact wpAny_bind (wpAny_pure (wpAny_bind (wpAny_pure (wpAny_pure h'))))
  | cons x rest =>
    obtain ⟨b, t⟩ := x
    simp only [List.any_cons, Bool.or_eq_false_iff] at hp
    obtain ⟨rfl, _⟩ := hp
    exact evalArgs_plain h
/-- a value that may be called: how the interpreter keeps it -/
noncomputable def Kept (f : Value) (h : Heap) : Prop := ∀ M : Model, ∃ k, (k = Keeper.frame ∨ k = Keeper.machine ∨ k = Keeper.boundFrame) ∧ Looks M h (keeperOf f) k
/-- the call itself, its arguments waiting -/
noncomputable def WPc (prog : Program) (w : World) (Γ : Cx) (σ : St) (f : Value) (xs : List MV) (Q : MV → St → Prop) : Prop :=
  ∀ (K : Kp) (ps : List (MV × Value)) (vs : List Value) (s : Shared) (R : Value → Shared → Prop), vs.length = xs.length → Rel prog w Γ K σ (xs.zip vs ++ ps) s →
    (∀ mv v σ' s', Q mv σ' → Rel prog w Γ K σ' ((mv, v) :: ps) s' → R v s') → Kept f s.heap ∧ wpAny (model prog w) Γ.A (call f vs []) R (fun _ _ => False) s
theorem kept_builtin {id : String} {h : Heap} : Kept (.builtin id) h := fun _ => ⟨.machine, .inr (.inl rfl), Looks.of_pure rfl⟩
theorem kept_type {id : String} {h : Heap} : Kept (.type id) h := fun _ => ⟨.machine, .inr (.inl rfl), Looks.of_pure rfl⟩
theorem kept_fn {a : Addr} {h : Heap} {o : Obj} {fd : FuncData} (ho : h.get? a = some o) (hd : o.data = .func fd) : Kept (.ref a) h := fun M => by
  obtain ⟨c, d, dt, sl⟩ := o
  cases hd
  exact ⟨.frame, .inl rfl, (Looks.ld (part := none) ho).andThen .now⟩
theorem WPl.callWith {f : Value} {first : List Value} {fx : List MV} {es : List Expr} {pos : Pos} (hf : first.length = fx.length)
    (he : ∀ env, (backTo pos (starEach es env)).any (·.1) = false)
    (hr : Rel prog w Γ K σ (fx.zip first ++ ps) s) (h : WPl prog w Γ σ es fun xs σ₁ => WPc prog w Γ σ₁ f (fx ++ xs) Q) (R : Value → Shared → Prop)
    (hR : ∀ mv v σ' s', Q mv σ' → Rel prog w Γ K σ' ((mv, v) :: ps) s' → R v s') : wpAny (model prog w) Γ.A (callWith pos f first (backTo pos (starEach es Γ.env)) []) R (fun _ _ => False) s := by
  refine callWith_of (P := Kept f) (by rw [he]; rfl) (fun h k => k _) (evalArgs_list (he _) ?_)
  refine h pos K _ s _ hr fun xs vs σ₁ s₁ h₁ hl r₁ => ?_
  refine h₁ K ps (first ++ vs) s₁ R (by simp [hf, hl]) (r₁.perm fun p hp => ?_) hR
  rw [List.zip_append hf.symm] at hp
  simp only [List.mem_append] at hp ⊢
  rcases hp with (h | h) | h
  · exact .inr (.inl h)
  · exact .inl h
  · exact .inr (.inr h)
/-- a plain call -/
theorem wp_call {fe : Expr} {es : List Expr} {p : Pos} (h : WPe prog w Γ σ fe fun fv σ₁ => ∃ f, fv = .obj f ∧ WPl prog w Γ σ₁ es fun xs σ₂ => WPc prog w Γ σ₂ f xs Q)
    (he : ∀ pos env, (backTo pos (starEach es env)).any (·.1) = false) (hc : ∀ env, eval (.Call fe es [] p) env = (do callWith p (← eval fe env) [] (backTo p (starEach es env)) (backToKw p (keywordEach [] env)))) :
    WPe prog w Γ σ (.Call fe es [] p) Q := by
  intro K ps s R r hR
  rw [hc]
  refine wpAny_bind (h K ps s _ r fun fv v σ₁ s₁ h₁ r₁ => ?_)
  obtain ⟨f, rfl, h₁⟩ := h₁
  obtain rfl := r₁.obj
  exact WPl.callWith (first := []) (fx := []) rfl (he p) r₁.drop h₁ R hR
theorem obj_intro {f : Value} {P : Value → Prop} (h : P f) : ∃ f', MV.obj f = .obj f' ∧ P f' := ⟨f, rfl, h⟩
/-- a method's call -/
noncomputable def WPm (prog : Program) (w : World) (Γ : Cx) (σ : St) (x : MV) (name : Str) (Q : Value → List MV → St → Prop) : Prop :=
  ∀ (pl : Sem Bool) (K : Kp) (ps : List (MV × Value)) (v : Value) (s : Shared) (R : Value × List Value → Shared → Prop), Rel prog w Γ K σ ((x, v) :: ps) s →
    (∀ f fx first σ' s', Q f fx σ' → first.length = fx.length → Rel prog w Γ K σ' (fx.zip first ++ ps) s' → R (f, first) s') → wpAny (model prog w) Γ.A (getMethod v name pl) R (fun _ _ => False) s
theorem wp_method {o : Expr} {name : Str} {es : List Expr} {pa p : Pos} (h : WPe prog w Γ σ o fun ov σ₁ => WPm prog w Γ σ₁ ov name fun f fx σ₂ => WPl prog w Γ σ₂ es fun xs σ₃ => WPc prog w Γ σ₃ f (fx ++ xs) Q)
    (he : ∀ pos env, (backTo pos (starEach es env)).any (·.1) = false)
    (hc : ∀ env, eval (.Call (.Attribute o name pa) es [] p) env = (do
      let ov ← eval o env
      standAt pa.atName
      let (f, first) ← holding [ov] (getMethod ov name (do return (← importBound o env).getD true))
      callWith p f first (backTo p (starEach es env)) (backToKw p (keywordEach [] env)))) : WPe prog w Γ σ (.Call (.Attribute o name pa) es [] p) Q := by
  intro K ps s R r hR
  refine methodCall_KW (h K ps s _ r fun ov v σ₁ s₁ h₁ r₁ => h₁ _ K ps v s₁ _ r₁ fun f fx first σ₂ s₂ h₂ hl r₂ => ?_) (hc _)
  exact WPl.callWith hl (he p) r₂ h₂ R hR
/-- the value of a statement is dropped -/
theorem wx_expr {e : Expr} {p : Pos} (h : WPe prog w Γ σ e fun mv σ₁ => mv = .none ∧ QF .next σ₁) (hs : ∀ env, swapsWith e none p.line env = pure false) : WPx prog w Γ σ (.Expr e p) QF := by
  intro K ps s R r hR
  refine wpAny_Expr (h K ps s _ r fun mv v σ₁ s₁ h₁ r₁ => ?_) (by unfold interactive; rw [r.ok.kind]; rfl) (hs _)
  obtain ⟨rfl, h₁⟩ := h₁
  obtain rfl := r₁.nil
  exact hR .next .next σ₁ s₁ h₁ ⟨rfl, r₁.drop⟩
theorem none_intro {P : Prop} (h : P) : MV.none = .none ∧ P := ⟨rfl, h⟩

theorem alive_nil (os : List (Option MO)) : alive os [] = [] := by
  cases os with
  | nil => rfl
  | cons x os => cases x <;> rfl
theorem alive_set {o o' : MO} : ∀ {os : List (Option MO)} {fps : List (List Addr)} {k : Nat}, os[k]? = some (some o) → alive (os.set k (some o')) fps = alive os fps
  | [], _, _, h => by simp at h
  | x :: os, [], k, _ => by rw [alive_nil, alive_nil]
  | x :: os, f :: fps, 0, h => by simp at h; subst h; rfl
  | x :: os, f :: fps, k + 1, h => by
    have := alive_set (o' := o') (fps := fps) (k := k) (os := os) (by simpa using h)
    cases x <;> simp [alive, this]
theorem alive_apart {o o' : MO} : ∀ {os : List (Option MO)} {fps : List (List Addr)} {j k : Nat} {fp fp' : List Addr}, (alive os fps).Nodup → os[j]? = some (some o) → fps[j]? = some fp → os[k]? = some (some o') → fps[k]? = some fp' → j ≠ k →
    ∀ a ∈ fp, a ∉ fp'
  | [], _, _, _, _, _, _, h, _, _, _, _ => by simp at h
  | _ :: _, [], _, _, _, _, _, _, h, _, _, _ => by simp at h
  | x :: os, f :: fps, 0, 0, _, _, _, _, _, _, _, h => absurd rfl h
  | x :: os, f :: fps, 0, k + 1, fp, fp', hn, h1, h2, h3, h4, _ => fun a ha ha' => by
    simp at h1 h2; subst h1 h2
    have hm := mem_alive (os := os) (fps := fps) (k := k) (by simpa using h3) (by simpa using h4) ha'
    exact (List.nodup_append.mp hn).2.2 a ha a hm rfl
  | x :: os, f :: fps, j + 1, 0, fp, fp', hn, h1, h2, h3, h4, _ => fun a ha ha' => by
    simp at h3 h4; subst h3 h4
    have hm := mem_alive (os := os) (fps := fps) (k := j) (by simpa using h1) (by simpa using h2) ha
    exact (List.nodup_append.mp hn).2.2 a ha' a hm rfl
  | x :: os, f :: fps, j + 1, k + 1, fp, fp', hn, h1, h2, h3, h4, hne => by
    refine alive_apart (os := os) (fps := fps) (j := j) (k := k) ?_ (by simpa using h1) (by simpa using h2) (by simpa using h3) (by simpa using h4) (fun e => hne (by rw [e]))
    cases x with
    | none => exact hn
    | some _ => exact (List.nodup_append.mp hn).2.1
theorem Core.setObj (C : Core prog w Γ K σ ps s F m cm fps) {k : Nat} {o o' : MO} {fp : List Addr} {h' : Heap} (hk : σ.objs[k]? = some (some o)) (hfp : fps[k]? = some fp) (hs : ∀ b, b ∉ fp → h'.get? b = s.heap.get? b)
    (hl : ∀ a ∈ fp, ∃ x, h'.get? a = some x) (hr : OR w F (rho fps) o' fp h') (ho : ∀ xs, o' = .lst xs → ∃ ys, o = .lst ys) (t : Nat) (ht : s.toks ≤ t := by first | exact Nat.le_refl _ | exact Nat.le_succ _ | omega | (dsimp only; omega)) :
    Core prog w Γ K { σ with objs := σ.objs.set k (some o') } ps { s with heap := h', toks := t } F m cm fps := by
  have hh : Γ.hot (σ.objs.set k (some o')) fps = Γ.hot σ.objs fps := by unfold Cx.hot; rw [alive_set hk]
  have hm : ∀ a ∈ fp, a ∈ alive σ.objs fps := fun a ha => mem_alive hk hfp ha
  obtain ⟨n1, n2⟩ := List.nodup_cons.mp C.hot
  obtain ⟨n3, n4, n5⟩ := List.nodup_append.mp n2
  have hL : Γ.env.locals ∉ fp := fun h => n1 (List.mem_append_right _ (hm _ h))
  have hc : ∀ n c, Γ.oc.lookup n = some c → c ∉ fp := fun n c e h => n5 c (List.mem_map.mpr ⟨(n, c), mem_of_lookup e, rfl⟩) c (hm c h) rfl
  refine { C with
    frz := fun b x e => (hs b fun q => C.frzH b x e (C.mem_hot hk hfp q)).trans (C.frz b x e)
    frzH := fun b x e => by rw [hh]; exact C.frzH b x e
    kept := fun b x e => (hs b fun q => C.keptH b x e (C.mem_hot hk hfp q)).trans (C.kept b x e)
    keptH := fun b x e => by rw [hh]; exact C.keptH b x e
    hot := by rw [hh]; exact C.hot
    live := fun b hb => ?_
    ns := ?_
    cell := fun n c e => ?_
    len := by rw [List.length_set]; exact C.len
    tok := Nat.le_trans C.tok ht
    trk := fun j x hj => ?_
    same := by obtain ⟨h, tk, e⟩ := C.same; exact ⟨h', t, by rw [e]⟩
    ext := fun b x e => ?_
    ownL := fun j xs fp' hj hj' => ?_ }
  · rw [hh] at hb
    by_cases q : b ∈ fp
    · exact hl b q
    · obtain ⟨x, e⟩ := C.live b hb; exact ⟨x, (hs b q).trans e⟩
  · obtain ⟨x, es, ep, e, r⟩ := C.ns
    exact ⟨x, es, ep, (hs _ hL).trans e, r⟩
  · obtain ⟨x, e', d⟩ := C.cell n c e
    exact ⟨x, (hs _ (hc n c e)).trans e', d⟩
  · rw [List.getElem?_set] at hj
    split at hj
    · rename_i e; subst e
      split at hj
      · cases hj; exact ⟨fp, hfp, hr⟩
      · cases hj
    · rename_i e
      obtain ⟨fp', h1, h2⟩ := C.trk j x hj
      exact ⟨fp', h1, h2.stab fun a ha => hs a (alive_apart n4 hj h1 hk hfp (fun q => e q.symm) a ha)⟩
  · by_cases q : b ∈ fp
    · exact hl b q
    · obtain ⟨x', e'⟩ := C.ext b x e; exact ⟨x', (hs b q).trans e'⟩
  · rw [List.getElem?_set] at hj
    split at hj
    · rename_i e; subst e
      split at hj
      · cases hj
        obtain ⟨ys, e⟩ := ho xs rfl
        subst e
        exact C.ownL k ys fp' hk hj'
      · cases hj
    · exact C.ownL j xs fp' hj hj'
theorem alive_snoc {o : MO} {fp : List Addr} : ∀ {os : List (Option MO)} {fps : List (List Addr)}, fps.length = os.length → alive (os ++ [some o]) (fps ++ [fp]) = alive os fps ++ fp
  | [], [], _ => by simp [alive]
  | [], _ :: _, h => by simp at h
  | _ :: _, [], h => by simp at h
  | x :: os, f :: fps, h => by
    have := alive_snoc (o := o) (fp := fp) (os := os) (fps := fps) (by simpa using h)
    cases x <;> simp [alive, this]
theorem rho_snoc {fp : List Addr} {k : Nat} {a : Addr} (h : rho fps k = some a) : rho (fps ++ [fp]) k = some a := by
  unfold rho at h ⊢
  cases e : fps[k]? with
  | none => rw [e] at h; cases h
  | some x =>
    have hk : k < fps.length := (List.getElem?_eq_some_iff.mp e).1
    rw [List.getElem?_append_left hk, e]; rw [e] at h; exact h
/-- new objects that turn: the addresses are new -/
theorem Core.addObj (C : Core prog w Γ K σ ps s F m cm fps) {o : MO} {fp : List Addr} {h' : Heap} (hk : ∀ b x, s.heap.get? b = some x → h'.get? b = some x) (hn : fp.Nodup) (hf : ∀ a ∈ fp, s.heap.get? a = none)
    (hl : ∀ a ∈ fp, ∃ x, h'.get? a = some x) (hr : OR w F (rho (fps ++ [fp])) o fp h') (t : Nat) (ht : s.toks ≤ t := by first | exact Nat.le_refl _ | exact Nat.le_succ _ | omega | (dsimp only; omega)) :
    Core prog w Γ K { σ with objs := σ.objs ++ [some o] } ps { s with heap := h', toks := t } F m cm (fps ++ [fp]) := by
  have hh : Γ.hot (σ.objs ++ [some o]) (fps ++ [fp]) = Γ.hot σ.objs fps ++ fp := by unfold Cx.hot; rw [alive_snoc C.len]; simp
  have C' := C.grow hk (Sub.refl F) (fun b x e => hk _ _ (C.frz b x e)) (fun _ _ e => .inl e) t ht
  have hrm : ∀ k a, rho fps k = some a → rho (fps ++ [fp]) k = some a := fun k a e => rho_snoc e
  have hnone : ∀ b x, s.heap.get? b = some x → b ∉ fp := fun b x e h => by rw [hf b h] at e; cases e
  refine { C' with
    frzH := fun b x e => by
      rw [hh]; intro hb
      rcases List.mem_append.mp hb with hb | hb
      · exact C.frzH b x e hb
      · exact hnone b x (C.frz b x e) hb
    keptH := fun b x e => by
      rw [hh]; intro hb
      rcases List.mem_append.mp hb with hb | hb
      · exact C.keptH b x e hb
      · exact hnone b x (C.kept b x e) hb
    hot := by
      rw [hh]
      refine List.nodup_append.mpr ⟨C.hot, hn, fun a ha b hb e => ?_⟩
      subst e
      obtain ⟨x, e⟩ := C.live a ha
      exact hnone a x e hb
    live := fun b hb => by
      rw [hh] at hb
      rcases List.mem_append.mp hb with hb | hb
      · exact C'.live b hb
      · exact hl b hb
    loc := fun x mv hx => (C'.loc x mv hx).imp id fun ⟨v, h1, h2, h3⟩ => ⟨v, h1, h2, h3.mono (Sub.refl F) hrm⟩
    len := by simp [C.len]
    pre := by obtain ⟨l, e⟩ := C.pre; exact ⟨l ++ [fp], by rw [e, List.append_assoc]⟩
    trk := fun j x hj => ?_
    ps := fun p hp => (C'.ps p hp).mono (Sub.refl F) hrm
    ownL := fun j xs fp' hj hj' => ?_ }
  · by_cases q : j < σ.objs.length
    · rw [List.getElem?_append_left q] at hj
      obtain ⟨fp', h1, h2⟩ := C'.trk j x hj
      exact ⟨fp', by rw [List.getElem?_append_left (by rw [C.len]; exact q)]; exact h1, h2.mono (Sub.refl F) hrm⟩
    · rw [List.getElem?_append_right (Nat.le_of_not_lt q)] at hj
      have hj0 : j - σ.objs.length = 0 := by
        cases e : j - σ.objs.length with
        | zero => rfl
        | succ i => rw [e] at hj; simp at hj
      rw [hj0] at hj
      simp at hj
      subst hj
      exact ⟨fp, by rw [List.getElem?_append_right (by rw [C.len]; exact Nat.le_of_not_lt q), C.len, hj0]; rfl, hr⟩
  · by_cases q : j < σ.objs.length
    · rw [List.getElem?_append_left q] at hj
      rw [List.getElem?_append_left (by rw [C.len]; exact q)] at hj'
      exact C.ownL j xs fp' hj hj'
    · have hj2 : j - σ.objs.length = 0 := by
        rw [List.getElem?_append_right (Nat.le_of_not_lt q)] at hj
        cases e : j - σ.objs.length with
        | zero => rfl
        | succ i => rw [e] at hj; simp at hj
      rw [List.getElem?_append_right (by rw [C.len]; exact Nat.le_of_not_lt q), C.len, hj2] at hj'
      simp at hj'
      subst hj'
      intro a ha
      cases e : Γ.sh.heap.get? a with
      | none => rfl
      | some x => obtain ⟨x', e'⟩ := C.ext a x e; rw [hf a ha] at e'; cases e'

/-- an object that turned is frozen -/
theorem alive_sub {o : MO} : ∀ {os : List (Option MO)} {fps : List (List Addr)} {k : Nat}, os[k]? = some (some o) → (alive (os.set k none) fps).Sublist (alive os fps)
  | [], _, _, h => by simp at h
  | x :: os, [], k, _ => by rw [alive_nil, alive_nil]; exact List.Sublist.slnil
  | x :: os, f :: fps, 0, h => by simp at h; subst h; exact List.sublist_append_right _ _
  | x :: os, f :: fps, k + 1, h => by
    have := alive_sub (fps := fps) (k := k) (os := os) (by simpa using h)
    cases x with
    | none => exact this
    | some _ => exact List.Sublist.append (List.Sublist.refl _) this
theorem Core.freeze (C : Core prog w Γ K σ ps s F m cm fps) {k : Nat} {xs : List MV} (hk : σ.objs[k]? = some (some (.lst xs))) :
    ∃ F' a, Core prog w Γ K { σ with objs := σ.objs.set k none } ps s F' m cm fps ∧ rho fps k = some a ∧ VR w F' (rho fps) (.list xs) (.ref a) := by
  obtain ⟨fp, hfp, hr⟩ := C.trk k _ hk
  cases hr with
  | lst a _ vs n _ hh hv =>
    have ham : a ∈ alive σ.objs fps := mem_alive hk hfp (.head _)
    have hah : a ∈ Γ.hot σ.objs fps := C.mem_hot hk hfp (.head _)
    have hFa : F a = none := by
      cases e : F a with
      | none => rfl
      | some x => exact absurd hah (C.frzH a x e)
    have hsub : (Γ.hot (σ.objs.set k none) fps).Sublist (Γ.hot σ.objs fps) := List.Sublist.cons_cons _ (List.Sublist.append (List.Sublist.refl _) (alive_sub hk))
    have hnot : a ∉ Γ.hot (σ.objs.set k none) fps := fun h => by
      have key : ∀ {os : List (Option MO)} {fps : List (List Addr)} {k : Nat}, os[k]? = some (some (.lst xs)) → fps[k]? = some [a] → (alive os fps).Nodup → a ∉ alive (os.set k none) fps := by
        intro os
        induction os with
        | nil => intro fps k h; simp at h
        | cons x os ih =>
          intro fps k h1 h2 h3
          cases fps with
          | nil => simp at h2
          | cons f fps =>
            cases k with
            | zero =>
              simp at h1 h2; subst h1 h2
              intro hm
              exact (List.nodup_append.mp h3).2.2 a (.head _) a hm rfl
            | succ k =>
              have h1' : os[k]? = some (some (.lst xs)) := by simpa using h1
              have h2' : fps[k]? = some [a] := by simpa using h2
              cases x with
              | none => exact ih h1' h2' h3
              | some o =>
                intro hm
                have h3' := List.nodup_append.mp h3
                rcases List.mem_append.mp hm with hm | hm
                · exact h3'.2.2 a hm a (mem_alive h1' h2' (.head _)) rfl
                · exact ih h1' h2' h3'.2.1 hm
      obtain ⟨n1, n2⟩ := List.nodup_cons.mp C.hot
      obtain ⟨n3, n4, n5⟩ := List.nodup_append.mp n2
      rcases List.mem_cons.mp h with h | h
      · exact n1 (List.mem_append_right _ (h ▸ ham))
      · rcases List.mem_append.mp h with h | h
        · exact n5 a h a ham rfl
        · exact key hk hfp n4 h
    have hS := Frz.put_sub (o := listO vs n) hFa
    refine ⟨F.put a (listO vs n), a, { C with
      base := fun b o e => hS _ _ (C.base b o e)
      frz := fun b o e => ?_
      frzH := fun b o e hb => ?_
      keptH := fun b o e hb => C.keptH b o e (hsub.mem hb)
      held := fun b hb => by
        obtain ⟨h1, ⟨o, h2⟩, h3⟩ := C.held b hb
        refine ⟨?_, ⟨o, h2⟩, h3⟩
        unfold Frz.put; split
        · rename_i q; subst q; exact absurd hah (C.keptH b o h2)
        · exact h1
      hot := C.hot.sublist hsub
      live := fun b hb => C.live b (hsub.mem hb)
      loc := fun x mv hx => (C.loc x mv hx).imp id fun ⟨v, h1, h2, h3⟩ => ⟨v, h1, h2, h3.mono hS fun _ _ e => e⟩
      len := by rw [List.length_set]; exact C.len
      trk := fun j o hj => ?_
      ps := fun p hp => (C.ps p hp).mono hS fun _ _ e => e
      lim := fun b o e => ?_
      ownL := fun j ys fp' hj => ?_ }, by unfold rho; rw [hfp]; rfl, ?_⟩
    · unfold Frz.put at e; split at e
      · rename_i q; subst q; cases e; exact hh
      · exact C.frz b o e
    · unfold Frz.put at e; split at e
      · rename_i q; subst q; exact hnot hb
      · exact C.frzH b o e (hsub.mem hb)
    · rw [List.getElem?_set] at hj
      split at hj
      · split at hj <;> cases hj
      · obtain ⟨fp', h1, h2⟩ := C.trk j o hj
        exact ⟨fp', h1, h2.mono hS fun _ _ e => e⟩
    · unfold Frz.put at e; split at e
      · rename_i q; subst q; exact .inr (C.ownL k xs [b] hk hfp b (.head _))
      · exact C.lim b o e
    · rw [List.getElem?_set] at hj
      split at hj
      · split at hj <;> cases hj
      · exact C.ownL j ys fp' hj
    · have hv' := hv.mono hS fun _ _ e => e
      exact .list a xs vs n Frz.put_self hv'.1 hv'.2

noncomputable def ObjAt (σ : St) (k : Nat) (o : MO) : Prop := σ.objs[k]? = some (some o)
/-- a name's list that turned is a list for good -/
theorem Rel.freezeName {x : Str} {k : Nat} {xs : List MV} {l' : List (Str × MV)} (r : Rel prog w Γ K σ ps s) (hx : Lk x (.mu k) σ.loc) (hk : ObjAt σ k (.lst xs)) (hp : Put x (.list xs) σ.loc l') : Rel prog w Γ K { loc := l', objs := σ.objs.set k none } ps s := by
  obtain ⟨F, m, cm, fps, C⟩ := r
  obtain ⟨v, h1, h2, h3⟩ := (C.loc x _ hx.mem).resolve_left (by nofun)
  obtain ⟨F', a, C', ha, hv⟩ := C.freeze hk
  obtain rfl : v = .ref a := by
    cases h3 with | mu _ b hb => rw [ha] at hb; cases hb; rfl
  obtain ⟨l₁, l₂, old, e1, e2⟩ := hp.split
  subst e2
  exact ⟨F', m, cm, fps, { C' with
    keys := by
      have := C'.keys
      rw [show ({ σ with objs := σ.objs.set k none } : St).loc = l₁ ++ (x, old) :: l₂ from e1] at this
      simpa using this
    loc := fun y mv hy => by
      by_cases q : (y, mv) = (x, .list xs)
      · cases q; exact .inr ⟨_, h1, h2, hv⟩
      · refine C'.loc y mv ?_
        show (y, mv) ∈ σ.loc
        rw [e1]
        rcases List.mem_append.mp hy with hy | hy
        · exact List.mem_append_left _ hy
        · rcases List.mem_cons.mp hy with hy | hy
          · exact absurd hy q
          · exact List.mem_append_right _ (.tail _ hy) }⟩
theorem ws_freeze {x : Str} {k : Nat} {xs : List MV} {bs : List Stmt} (hx : Lk x (.mu k) σ.loc) (hk : ObjAt σ k (.lst xs)) (h : PutQ x (.list xs) σ.loc fun l' => WPs prog w Γ { loc := l', objs := σ.objs.set k none } bs QF) : WPs prog w Γ σ bs QF := by
  intro K ps s R r hR
  obtain ⟨l', hp, h⟩ := h
  exact h K ps s R (r.freezeName hx hk hp) hR
/-- a new list that will turn, bound to a name -/
theorem wx_new {x : Str} {p p' pl : Pos} {es : List Expr} (h : WPl prog w Γ σ es fun xs σ₁ => xs.length ≤ sizeLine ∧ PutQ x (.mu σ₁.objs.length) σ₁.loc fun l' => QF .next { loc := l', objs := σ₁.objs ++ [some (.lst xs)] }) :
    WPx prog w Γ σ (.Assign [.Name x p'] (.List es pl) p) QF := by
  intro K ps s R r hR
  refine wpAny_Assign_Name (wpAny_List (h pl K ps s _ r fun xs vs σ₁ s₁ h₁ hl r₁ => ⟨by rw [hl]; exact h₁.1, ?_⟩)) rfl
  obtain ⟨_, l', hp, h₁⟩ := h₁
  obtain ⟨F, m, cm, fps, C⟩ := r₁
  have hz := C.zip hl rfl
  have C := C.setps (ps' := ps) fun p hp => C.ps p (List.mem_append_right _ hp)
  have C' := C.addObj (o := .lst xs) (fp := [s₁.heap.objs.size]) (h' := s₁.heap.push (listO vs 0)) (fun b x e => Heap.get?_push_of_some _ e) (by simp) (fun a ha => by simp at ha; subst ha; exact get?_size _)
    (fun a ha => by simp at ha; subst ha; exact ⟨_, Heap.get?_push_size _ rfl⟩) (.lst _ xs vs 0 _ (Heap.get?_push_size _ rfl) (hz.mono (Sub.refl F) fun _ _ e => rho_snoc e)) s₁.toks
  have hr : rho (fps ++ [[s₁.heap.objs.size]]) σ₁.objs.length = some s₁.heap.objs.size := by
    unfold rho; rw [← C.len, List.getElem?_append_right (Nat.le_refl _), Nat.sub_self]; rfl
  exact WP1.to_store (σ := { σ₁ with objs := σ₁.objs ++ [some (.lst xs)] }) (mv := .mu σ₁.objs.length) (QU := fun σ => QF .next σ) hp h₁ K ps _ _ _ ⟨F, m, cm, _, C'.cons (.mu _ _ hr)⟩ fun σ₂ s₂ h₂ r₂ => hR .next .next σ₂ s₂ h₂ ⟨rfl, r₂⟩

variable {prog : Program} {w : World} {Γ : Cx} {K : Kp} {σ σ' : St} {ps : List (MV × Value)} {s : Shared} {F : Frz} {m cm : Str → Option Value} {fps : List (List Addr)}
variable {Q : MV → St → Prop} {QB : Bool → St → Prop} {QF : MF → St → Prop} {QU : St → Prop} {QL : List MV → St → Prop}

noncomputable def owners : List String := ["enumerate", "zip", "dict_itemiterator", "dict_reverseitemiterator", "odict_iterator", "itertools.zip_longest", "itertools.pairwise"]
structure Itr (prog : Program) (w : World) (x : MV) (items : List MV) where
  D : Value → Nat → Obj → Prop
  opn : ∀ {A : Around} {F : Frz} {ρ : Nat → Option Addr} {v : Value} {s : Shared} {R : Value → Shared → Prop}, A.handled = none → VR w F ρ x v → (∀ b o, F b = some o → s.heap.get? b = some o) →
    (∀ o, D v 0 o → o.isFreed = false → R (.ref s.heap.objs.size) { s with heap := s.heap.push o }) → wpAny (model prog w) A (pyIter v) R (fun _ _ => False) s
  wk : ∀ {A : Around} {F : Frz} {ρ : Nat → Option Addr} {v : Value} {I : Addr}, A.handled = none → VR w F ρ x v → F I = none → ∃ fp P St, Walks prog w A I fp [I] items.length P St ∧ (∀ b ∈ fp, b = I ∨ ∃ o, F b = some o) ∧
    (∀ (i : Nat) (h : Heap) o, (∀ b o, F b = some o → h.get? b = some o) → h.get? I = some o → D v i o → St i h) ∧ (∀ i h, St i h → ∃ o, h.get? I = some o ∧ D v i o) ∧ (∀ i u, i < items.length → P i u → ∃ y, items[i]? = some y ∧ VR w F ρ y u)
  cls : ∀ v i o, D v i o → ∃ T fs, o.cls = .type T ∧ o.data = .fields fs ∧ owners.contains T = false

noncomputable def Itr.list (prog : Program) (w : World) (xs : List MV) : Itr prog w (.list xs) xs where
  D := fun v i o => o.cls = .type "list_iterator" ∧ o.data = .fields #[v, .int i 0]
  opn := by
    intro A F ρ v s R hh hv hF hR
    cases hv with
    | list a _ vs n h1 h2 h3 => exact wpAny_pyIter_list ⟨_, hF _ _ h1, rfl, n, rfl⟩ (hR _ ⟨rfl, rfl⟩ rfl)
  wk := by
    intro A F ρ v I hh hv hI
    cases hv with
    | list a _ vs n h1 h2 h3 =>
      have hne : a ≠ I := fun e => by rw [e, hI] at h1; cases h1
      refine ⟨[I, a], fun i v => vs.toArray[i]? = some v, fun i h => h.IsListIter I a i ∧ h.IsList a vs.toArray, (by have := Walks.list (prog := prog) (w := w) hh I a hne vs.toArray; rw [List.size_toArray, h2] at this; exact this), fun b hb => ?_, fun i h o hk ho hD => ⟨⟨o, ho, hD.1, hD.2⟩, ⟨_, hk _ _ h1, rfl, n, rfl⟩⟩, fun i h hs => ?_, fun i u _ hu => ?_⟩
      · simp at hb; rcases hb with rfl | rfl
        · exact .inl rfl
        · exact .inr ⟨_, h1⟩
      · obtain ⟨⟨o, ho, hc, hd⟩, _⟩ := hs; exact ⟨o, ho, hc, hd⟩
      · have hu : vs[i]? = some u := by simpa using hu
        have hi : i < xs.length := by rw [← h2]; exact (List.getElem?_eq_some_iff.mp hu).1
        exact ⟨xs[i], List.getElem?_eq_getElem hi, h3 i _ _ (List.getElem?_eq_getElem hi) hu⟩
  cls := fun v i o h => ⟨_, _, h.1, h.2, rfl⟩
noncomputable def Itr.tup (prog : Program) (w : World) (xs : List MV) : Itr prog w (.tup xs) xs where
  D := fun v i o => o.cls = .type "tuple_iterator" ∧ o.data = .fields #[v, .int i 0]
  opn := by
    intro A F ρ v s R hh hv hF hR
    cases hv with
    | tup a _ vs n h1 h2 h3 => exact wpAny_pyIter_tuple ⟨_, hF _ _ h1, rfl, n, rfl⟩ (hR _ ⟨rfl, rfl⟩ rfl)
  wk := by
    intro A F ρ v I hh hv hI
    cases hv with
    | tup a _ vs n h1 h2 h3 =>
      have hne : a ≠ I := fun e => by rw [e, hI] at h1; cases h1
      refine ⟨[I, a], fun i v => vs.toArray[i]? = some v, fun i h => h.IsTupleIter I a i ∧ h.IsTuple a vs.toArray, (by have := Walks.tuple (prog := prog) (w := w) hh I a hne vs.toArray; rw [List.size_toArray, h2] at this; exact this), fun b hb => ?_, fun i h o hk ho hD => ⟨⟨o, ho, hD.1, hD.2⟩, ⟨_, hk _ _ h1, rfl, n, rfl⟩⟩, fun i h hs => ?_, fun i u _ hu => ?_⟩
      · simp at hb; rcases hb with rfl | rfl
        · exact .inl rfl
        · exact .inr ⟨_, h1⟩
      · obtain ⟨⟨o, ho, hc, hd⟩, _⟩ := hs; exact ⟨o, ho, hc, hd⟩
      · have hu : vs[i]? = some u := by simpa using hu
        have hi : i < xs.length := by rw [← h2]; exact (List.getElem?_eq_some_iff.mp hu).1
        exact ⟨xs[i], List.getElem?_eq_getElem hi, h3 i _ _ (List.getElem?_eq_getElem hi) hu⟩
  cls := fun v i o h => ⟨_, _, h.1, h.2, rfl⟩
/-- the signs of a str -/
noncomputable def signs (x : Str) : List MV := x.cps.toList.map fun c => .str ⟨#[c]⟩
noncomputable def Itr.str (prog : Program) (w : World) (x : Str) : Itr prog w (.str x) (signs x) where
  D := fun v i o => (o.cls = .type (strIterType x) ∧ o.data = .fields #[v, .int i 0])
  opn := by
    intro A F ρ v s R hh hv hF hR
    cases hv with
    | str _ t => exact wpAny_pyIter_strU (hR _ ⟨rfl, rfl⟩ rfl)
  wk := by
    intro A F ρ v I hh hv hI
    cases hv with
    | str _ t =>
      have hl : (signs x).length = x.cps.size := by simp [signs]
      rw [hl]
      have fin : ∀ i u, i < x.cps.size → SignAt x i u → ∃ y, (signs x)[i]? = some y ∧ VR w F ρ y u := fun i u _ ⟨c, k, hc, e⟩ => by
        subst e; exact ⟨.str ⟨#[c]⟩, by simp [signs, hc], .str _ _⟩
      have fpk : ∀ b ∈ [I], b = I ∨ ∃ o, F b = some o := fun b hb => .inl (by simpa using hb)
      cases ha : x.cps.all (· < 128) with
      | false =>
        have e : strIterType x = "str_iterator" := by simp [strIterType, ha]
        rw [e]
        exact ⟨[I], _, _, Walks.strWide hh I x t, fpk, fun i h o hk ho hD => ⟨o, ho, hD.1, hD.2⟩, fun i h hs => by obtain ⟨o, ho, hc, hd⟩ := hs; exact ⟨o, ho, hc, hd⟩, fin⟩
      | true =>
        have e : strIterType x = "str_ascii_iterator" := by simp [strIterType, ha]
        rw [e]
        exact ⟨[I], _, _, Walks.strAscii hh I x t, fpk, fun i h o hk ho hD => ⟨o, ho, hD.1, hD.2⟩, fun i h hs => by obtain ⟨o, ho, hc, hd⟩ := hs; exact ⟨o, ho, hc, hd⟩, fin⟩
  cls := fun v i o h => ⟨_, _, h.1, h.2, by
    unfold strIterType; split <;> rfl⟩
noncomputable def intsOf (a b : Int) : List MV := (List.range (b - a).toNat).map fun i : Nat => .int (a + (i : Int))
noncomputable def Itr.rng (prog : Program) (w : World) (a b : Int) (hs : Builtin.Range.small a b 1 = true) (hz : Builtin.Range.rangeSize a b 1 = (b - a).toNat) : Itr prog w (.rng a b) (intsOf a b) where
  D := fun v i o => o = { cls := .type "range_iterator", dict := none, data := .fields #[rawInt (a + (i : Nat) * 1), rawInt (((b - a).toNat : Int) - (i : Nat)), rawInt 1], slots := #[] }
  opn := by
    intro A F ρ v s R hh hv hF hR
    cases hv with
    | rng r _ _ t u c h1 =>
      refine wpAny_pyIter_range (hF _ _ h1) hs (hR _ ?_ rfl)
      rw [hz]; simp
  wk := by
    intro A F ρ v I hh hv hI
    cases hv with
    | rng r _ _ t u c h1 =>
      have hl : (intsOf a b).length = (b - a).toNat := by simp [intsOf]
      rw [hl]
      refine ⟨[I], _, _, Walks.range hh I a 1 (b - a).toNat, fun b hb => .inl (by simpa using hb), fun i h o hk ho hD => by subst hD; exact ho, fun i h hs => ⟨_, hs, rfl⟩, fun i u hi ⟨t, e⟩ => ⟨.int (a + i), by simp [intsOf, hi], ?_⟩⟩
      subst e; rw [Int.mul_one]; exact .int _ _
  cls := fun v i o h => by subst h; exact ⟨_, _, rfl, rfl, rfl⟩

theorem Core.rekeep (C : Core prog w Γ K σ ps s F m cm fps) {I : Addr} {K' : Kp} {h' : Heap} (hF : F I = none) (hI : I ∉ Γ.hot σ.objs fps) (hold : Γ.sh.heap.get? I = none) (he : ∀ b o, b ≠ I → s.heap.get? b = some o → h'.get? b = some o)
    (hk : ∀ b o, K'.f b = some o → h'.get? b = some o) (hH : ∀ b o, K'.f b = some o → b ∉ Γ.hot σ.objs fps) (hx : ∀ b o, Γ.hX b = some o → K'.f b = some o) (hh : ∀ b ∈ K'.x, F b = none ∧ (∃ o, K'.f b = some o) ∧ Γ.sh.heap.get? b = none) (t : Nat) (ht : s.toks ≤ t := by first | exact Nat.le_refl _ | exact Nat.le_succ _ | omega | (dsimp only; omega)) :
    Core prog w Γ K' σ ps { s with heap := h', toks := t } F m cm fps := by
  have hne : ∀ b, b ∈ Γ.hot σ.objs fps → b ≠ I := fun b hb e => hI (e ▸ hb)
  exact { C with
    frz := fun b o e => he b o (fun q => by rw [q, hF] at e; cases e) (C.frz b o e)
    kept := hk
    keptH := hH
    hx := hx
    held := hh
    live := fun b hb => let ⟨o, e⟩ := C.live b hb; ⟨o, he b o (hne b hb) e⟩
    ns := C.ns.at' fun o e => he _ o (hne _ (.head _)) e
    cell := fun n c e => by
      obtain ⟨x, e', d⟩ := C.cell n c e
      exact ⟨x, he _ _ (hne _ (List.mem_cons_of_mem _ (List.mem_append_left _ (List.mem_map.mpr ⟨(n, c), mem_of_lookup e, rfl⟩)))) e', d⟩
    trk := fun k o ho => by
      obtain ⟨fp, hfp, hr⟩ := C.trk k o ho
      refine ⟨fp, hfp, hr.stab fun a ha => ?_⟩
      have hm := C.mem_hot ho hfp ha
      obtain ⟨o', e'⟩ := C.live a hm
      rw [e', he a o' (hne a hm) e']
    tok := Nat.le_trans C.tok ht
    same := by obtain ⟨h, tk, e⟩ := C.same; exact ⟨h', t, by rw [e]⟩
    ext := fun b o e => let ⟨o', e'⟩ := C.ext b o e; ⟨o', he b o' (fun q => by rw [q, hold] at e; cases e) e'⟩ }

/-- the world of a loop: its iterator is held -/
noncomputable abbrev Kp.hold (K : Kp) (I : Addr) (o : Obj) : Kp := ⟨fun b => if b = I then some o else K.f b, I :: K.x⟩
theorem Rel.hold (h : Rel prog w Γ K σ ps s) {o : Obj} (ho : o.isFreed = false) : Rel prog w Γ (K.hold s.heap.objs.size o) σ ps { s with heap := s.heap.push o } ∧ K.f s.heap.objs.size = none ∧ Γ.hX s.heap.objs.size = none := by
  obtain ⟨F, m, cm, fps, C⟩ := h
  have hold : Γ.sh.heap.get? s.heap.objs.size = none := by
    cases q : Γ.sh.heap.get? s.heap.objs.size with
    | none => rfl
    | some o' => obtain ⟨o'', e'⟩ := C.ext _ o' q; rw [get?_size] at e'; cases e'
  refine ⟨⟨F, m, cm, fps, C.rekeep (I := s.heap.objs.size) (K' := K.hold s.heap.objs.size o) C.noneF C.notHot hold (fun b x _ e => Heap.get?_push_of_some _ e) (fun b x e => ?_) (fun b x e => ?_) (fun b x e => ?_) (fun b hb => ?_) s.toks⟩, C.noneK, by
    cases e : Γ.hX s.heap.objs.size with
    | none => rfl
    | some x => have := C.hx _ x e; rw [C.noneK] at this; cases this⟩
  · dsimp only at e; split at e
    · rename_i q; subst q; cases e; exact Heap.get?_push_size _ ho
    · exact Heap.get?_push_of_some _ (C.kept b x e)
  · dsimp only at e; split at e
    · rename_i q; subst q; exact C.notHot
    · exact C.keptH b x e
  · have := C.hx b x e
    dsimp only; split
    · rename_i q; subst q; rw [C.noneK] at this; cases this
    · exact this
  · rcases List.mem_cons.mp hb with q | q
    · subst q; exact ⟨C.noneF, ⟨o, if_pos rfl⟩, hold⟩
    · obtain ⟨h1, ⟨o', h2⟩, h3⟩ := C.held b q
      refine ⟨h1, ⟨o', ?_⟩, h3⟩
      dsimp only; rw [if_neg (fun q => by rw [q, C.noneK] at h2; cases h2)]; exact h2
theorem Rel.renew {I : Addr} {o o' : Obj} {h' : Heap} (h : Rel prog w Γ (K.hold I o) σ ps s) (hX : Γ.hX I = none) (he : ∀ b x, b ≠ I → s.heap.get? b = some x → h'.get? b = some x) (ho : h'.get? I = some o') (t : Nat) (ht : s.toks ≤ t := by first | exact Nat.le_refl _ | exact Nat.le_succ _ | omega | (dsimp only; omega)) :
    Rel prog w Γ (K.hold I o') σ ps { s with heap := h', toks := t } := by
  obtain ⟨F, m, cm, fps, C⟩ := h
  obtain ⟨h1, _, h3⟩ := C.held I (.head _)
  refine ⟨F, m, cm, fps, C.rekeep h1 (C.keptH I o (if_pos rfl)) h3 he (fun b x e => ?_) (fun b x e => ?_) (fun b x e => ?_) (fun b hb => ?_) t ht⟩
  · dsimp only at e; split at e
    · rename_i q; subst q; cases e; exact ho
    · rename_i q; exact he b x q (C.kept b x ((if_neg q).trans e))
  · dsimp only at e; split at e
    · rename_i q; subst q; exact C.keptH b o (if_pos rfl)
    · rename_i q; exact C.keptH b x ((if_neg q).trans e)
  · have := C.hx b x e
    dsimp only at this ⊢; split
    · rename_i q; subst q
      rw [hX] at e; cases e
    · rename_i q; rw [if_neg q] at this; exact this
  · obtain ⟨g1, ⟨o2, g2⟩, g3⟩ := C.held b hb
    refine ⟨g1, ?_, g3⟩
    dsimp only at g2 ⊢; split
    · exact ⟨_, rfl⟩
    · rename_i q; rw [if_neg q] at g2; exact ⟨o2, g2⟩
theorem Rel.letgo {I : Addr} {o : Obj} {h' : Heap} (h : Rel prog w Γ (K.hold I o) σ ps s) (hK : K.f I = none) (he : ∀ b x, b ≠ I → s.heap.get? b = some x → h'.get? b = some x) (hKx : ∀ b ∈ K.x, ∃ o, K.f b = some o) (hXK : ∀ b o, Γ.hX b = some o → K.f b = some o) (t : Nat) (ht : s.toks ≤ t := by first | exact Nat.le_refl _ | exact Nat.le_succ _ | omega | (dsimp only; omega)) :
    Rel prog w Γ K σ ps { s with heap := h', toks := t } := by
  obtain ⟨F, m, cm, fps, C⟩ := h
  obtain ⟨h1, _, h3⟩ := C.held I (.head _)
  have hne : ∀ b o, K.f b = some o → b ≠ I := fun b o e q => by rw [q, hK] at e; cases e
  refine ⟨F, m, cm, fps, C.rekeep h1 (C.keptH I o (if_pos rfl)) h3 he (fun b x e => he b x (hne b x e) (C.kept b x ((if_neg (hne b x e)).trans e))) (fun b x e => C.keptH b x ((if_neg (hne b x e)).trans e)) hXK (fun b hb => ?_) t ht⟩
  obtain ⟨g1, _, g3⟩ := C.held b (.tail _ hb)
  exact ⟨g1, hKx b hb, g3⟩
theorem Rel.kx (h : Rel prog w Γ K σ ps s) : (∀ b ∈ K.x, ∃ o, K.f b = some o) ∧ (∀ b o, Γ.hX b = some o → K.f b = some o) := let ⟨_, _, _, _, C⟩ := h; ⟨fun b hb => (C.held b hb).2.1, C.hx⟩

noncomputable def WPf (prog : Program) (w : World) (Γ : Cx) (tgt : Expr) (b : List Stmt) (QF : MF → St → Prop) : List MV → St → Prop
  | [], σ => QF .next σ
  | y :: ys, σ => WU1 prog w Γ σ y (assign tgt Γ.env) fun σ₁ => WPs prog w Γ σ₁ b (turn (WPf prog w Γ tgt b QF ys) QF)
theorem go_own {tgt : Expr} {A : Around} {E : Value → Shared → Prop} {I : Addr} {o : Obj} {v : Value} {R : Unit → Shared → Prop} (ho : s.heap.get? I = some o) (hc : ∃ T fs, o.cls = .type T ∧ o.data = .fields fs ∧ owners.contains T = false) (hR : R () s) :
    wpAny (model prog w) A (letOwnedTupleGo tgt (.ref I) v) R E s := by
  obtain ⟨T, fs, hc, hd, hT⟩ := hc
  have go : ∀ a, wpAny (model prog w) A (do
      let o ← load I
      match o.cls, o.data with
      | .type n, .fields vs =>
        if owners.contains n && vs[0]? == some (rawInt a) then
          rule "for.unpacks-the-owned-tuple"
          updateField I 0 .none
      | _, _ => pure () : Sem Unit) R E s := fun a => by
    refine wpAny_bind (wpAny_load ho ?_)
    rw [hc, hd]
    show wpAny _ A (if (owners.contains T && fs[0]? == some (rawInt a)) = true then _ else _) R E s
    rw [hT, Bool.false_and, if_neg (by simp)]
    exact wpAny_pure hR
  unfold letOwnedTupleGo
  split
  · cases v <;> first | exact wpAny_pure hR | exact go _
  · cases v <;> first | exact wpAny_pure hR | exact go _
  · exact wpAny_pure hR
theorem wx_for {tgt it : Expr} {b : List Stmt} {p : Pos} (h : WPe prog w Γ σ it fun x σ₁ => ∃ items, ∃ _ : Itr prog w x items, WPf prog w Γ tgt b QF items σ₁)
    (hs : ∀ env x, foldedSetIterable it env x = pure x) : WPx prog w Γ σ (.For tgt it b [] p) QF := by
  intro K ps s R r hR
  refine wpAny_For (h K ps s _ r fun x v σ₁ s₁ h₁ r₁ => ?_) (hs _)
  obtain ⟨items, T, h₁⟩ := h₁
  have hvr := r₁
  obtain ⟨F, m, cm, fps, C⟩ := hvr
  refine T.opn r₁.handled (C.ps _ (.head _)) C.frz fun o hD ho => ?_
  obtain ⟨r₂, hK, hX⟩ := r₁.hold ho
  obtain ⟨kx1, kx2⟩ := r.kx
  -- the loop
  refine codeAny_forLoop_any (fun n s' => ∃ i ys σ' o', i ≤ items.length ∧ items.drop i = ys ∧ n = ys.length + 1 ∧ T.D v i o' ∧ WPf prog w Γ tgt b QF ys σ' ∧ Rel prog w Γ (K.hold s₁.heap.objs.size o') σ' ((x, v) :: ps) s') (fun n s' hI => ?_) (items.length + 1) ⟨0, items, σ₁, o, Nat.zero_le _, rfl, rfl, hD, h₁, r₂⟩
  obtain ⟨i, ys, σ', o', hil, hys, hn, hD', hw, r'⟩ := hI
  have r'' := r'
  obtain ⟨F', m', cm', fps', C'⟩ := r''
  have hFI : F' s₁.heap.objs.size = none := (C'.held _ (.head _)).1
  obtain ⟨fp, P, St, W, hfp, hst1, hst2, hP⟩ := T.wk (A := Γ.A) (I := s₁.heap.objs.size) r'.handled (C'.ps _ (.head _)) hFI
  have hIo : s'.heap.get? s₁.heap.objs.size = some o' := C'.kept _ _ (if_pos rfl)
  have hSt : St i s'.heap := hst1 i _ _ C'.frz hIo hD'
  cases ys with
  | nil =>
    have hi : i = items.length := Nat.le_antisymm hil (by simpa using hys)
    subst hi
    refine wpAny_with_toks (Nat.le_refl _) (W.done s' _ _ hSt fun h' tk hk ht => ?_)
    exact wpAny_execs_nil (hR .next .next σ' _ hw ⟨rfl, (r'.letgo hK (fun b x hb e => hk b x (by simpa using hb) e) kx1 kx2 tk ht).drop⟩)
  | cons y ys =>
    have hi : i < items.length := by
      rcases Nat.lt_or_ge i items.length with q | q
      · exact q
      · rw [List.drop_eq_nil_of_le q] at hys; cases hys
    refine wpAny_with_toks (Nat.le_refl _) (W.item i s' _ _ hi hSt fun u h' tk hPu hSt' hk ht => ?_)
    obtain ⟨y', hy, hyv⟩ := hP i u hi hPu
    have hyy : y' = y := by
      have := congrArg List.head? hys
      rw [List.head?_drop, hy] at this; simpa using this
    subst hyy
    obtain ⟨o'', ho'', hD''⟩ := hst2 _ _ hSt'
    have r₃ : Rel prog w Γ (K.hold s₁.heap.objs.size o'') σ' ((y', u) :: (x, v) :: ps) { s' with heap := h', toks := tk } := 
      Rel.renew ⟨F', m', cm', fps', C'.cons hyv⟩ hX (fun b x hb e => hk b x (by simpa using hb) e) ho'' tk ht
    refine go_own ho'' (T.cls _ _ _ hD'') (wpAny_mono (hw _ ((x, v) :: ps) u _ (fun (_ : Unit) s₂ => wpAny (model prog w) Γ.A (execs b Γ.env) _ (fun _ _ => False) s₂) r₃ fun σ₂ s₂ h₂ r₄ => ?_) (fun _ s₂ h₂ => wpAny_mono h₂ (fun _ _ q => q) fun _ _ q => q.elim) fun _ _ q => q.elim)
    refine h₂ _ _ s₂ _ r₄ fun mf f σ₃ s₃ h₃ r₅ => ?_
    cases mf with
    | next => obtain ⟨rfl, r₅⟩ := r₅; exact ⟨ys.length + 1, by rw [hn]; simp, i + 1, ys, σ₃, o'', hi, by rw [← List.tail_drop, hys]; rfl, rfl, hD'', h₃, r₅⟩
    | cont => obtain ⟨rfl, r₅⟩ := r₅; exact ⟨ys.length + 1, by rw [hn]; simp, i + 1, ys, σ₃, o'', hi, by rw [← List.tail_drop, hys]; rfl, rfl, hD'', h₃, r₅⟩
    | brk => obtain ⟨rfl, r₅⟩ := r₅; exact hR .next .next σ₃ s₃ h₃ ⟨rfl, (r₅.letgo (h' := s₃.heap) hK (fun b x hb e => e) kx1 kx2 s₃.toks).drop⟩
    | ret z =>
      obtain ⟨z', rfl, r₅⟩ := r₅
      refine hR (.ret z) _ σ₃ s₃ h₃ ⟨z', rfl, ?_⟩
      exact (r₅.letgo (h' := s₃.heap) hK (fun b x hb e => e) kx1 kx2 s₃.toks).perm fun p hp => by
        rcases List.mem_cons.mp hp with q | q
        · rw [q]; exact .head _
        · exact .tail _ (.tail _ q)

variable {prog : Program} {w : World} {Γ Γ' : Cx} {K K' : Kp} {σ σ' : St} {ps qs : List (MV × Value)} {s s' : Shared} {F F' : Frz} {m cm m' cm' : Str → Option Value} {fps fps' : List (List Addr)}
variable {Q : MV → St → Prop} {QB : Bool → St → Prop} {QF : MF → St → Prop} {QU : St → Prop} {QL : List MV → St → Prop}

theorem Rel.kp (h : Rel prog w Γ K σ ps s) (hf : ∀ b, K'.f b = K.f b) (hx : ∀ b ∈ K'.x, b ∈ K.x) : Rel prog w Γ K' σ ps s := by
  obtain ⟨F, m, cm, fps, C⟩ := h
  exact ⟨F, m, cm, fps, { C with
    kept := fun b o e => C.kept b o ((hf b).symm.trans e)
    keptH := fun b o e => C.keptH b o ((hf b).symm.trans e)
    hx := fun b o e => (hf b).trans (C.hx b o e)
    held := fun b hb => let ⟨h1, ⟨o, h2⟩, h3⟩ := C.held b (hx b hb); ⟨h1, ⟨o, (hf b).trans h2⟩, h3⟩ }⟩

/-- what an inner text may turn: lists are hidden -/
noncomputable def hide : Option MO → Option MO
  | some (.ext e) => some (.ext e)
  | _ => none
noncomputable def mask (os : List (Option MO)) : List (Option MO) := os.map hide
theorem mask_get {os : List (Option MO)} {k : Nat} {o : MO} (h : (mask os)[k]? = some (some o)) : os[k]? = some (some o) ∧ ∃ e, o = .ext e := by
  unfold mask at h
  rw [List.getElem?_map] at h
  cases e : os[k]? with
  | none => rw [e] at h; cases h
  | some x =>
    rw [e] at h
    cases x with
    | none => cases h
    | some x => cases x with
      | lst xs => cases h
      | ext e => cases h; exact ⟨rfl, _, rfl⟩
theorem mask_sub : ∀ {os : List (Option MO)} {fps : List (List Addr)}, (alive (mask os) fps).Sublist (alive os fps)
  | [], fps => by cases fps <;> exact List.Sublist.refl _
  | x :: os, [] => by rw [alive_nil, alive_nil]; exact List.Sublist.refl _
  | none :: os, f :: fps => mask_sub (os := os) (fps := fps)
  | some (.lst xs) :: os, f :: fps => (mask_sub (os := os) (fps := fps)).trans (List.sublist_append_right _ _)
  | some (.ext e) :: os, f :: fps => List.Sublist.append (List.Sublist.refl _) (mask_sub (os := os) (fps := fps))
/-- what may turn has turned -/
inductive Turned : List (Option MO) → List (Option MO) → Prop
  | nil : Turned [] []
  | same (o : Option MO) {os os' : List (Option MO)} (h : Turned os os') : Turned (o :: os) (o :: os')
  | ext (e e' : Ext) {os os' : List (Option MO)} (h : Turned os os') : Turned (some (.ext e) :: os) (some (.ext e') :: os')
theorem Turned.refl : ∀ os : List (Option MO), Turned os os
  | [] => .nil
  | o :: os => .same o (.refl os)
theorem Turned.len {os os' : List (Option MO)} (h : Turned os os') : os.length = os'.length := by
  induction h with
  | nil => rfl
  | same _ _ ih => simp [ih]
  | ext _ _ _ ih => simp [ih]
theorem Turned.alive {os os' : List (Option MO)} (h : Turned os os') : ∀ {fps : List (List Addr)}, alive os fps = alive os' fps := by
  induction h with
  | nil => intro fps; rfl
  | same o _ ih => intro fps; cases fps with
    | nil => rw [alive_nil, alive_nil]
    | cons f fps => cases o <;> simp [Mine.alive, ih]
  | ext _ _ _ ih => intro fps; cases fps with
    | nil => rw [alive_nil, alive_nil]
    | cons f fps => simp [Mine.alive, ih]
theorem Turned.get {os os' : List (Option MO)} (h : Turned os os') : ∀ {k : Nat} {o : MO}, os'[k]? = some (some o) → os[k]? = some (some o) ∨ (∃ e, o = .ext e) ∧ ∃ e', os[k]? = some (some (.ext e')) := by
  induction h with
  | nil => intro k o h; simp at h
  | same o _ ih => intro k o' h; cases k with
    | zero => exact .inl h
    | succ k => exact ih (by simpa using h)
  | ext e e' _ ih => intro k o' h; cases k with
    | zero => simp at h; exact .inr ⟨⟨e', h.symm⟩, e, rfl⟩
    | succ k => exact ih (by simpa using h)
theorem mask_of {os : List (Option MO)} {k : Nat} {e : Ext} (h : os[k]? = some (some (.ext e))) : (mask os)[k]? = some (some (.ext e)) := by
  unfold mask; rw [List.getElem?_map, h]; rfl

/-- what an inner text keeps -/
noncomputable abbrev inK (L : Addr) (os : List (Option MO)) (fps : List (List Addr)) (h : Heap) : Kp := ⟨fun b => if b = L ∨ b ∈ alive (mask os) fps then none else h.get? b, []⟩
theorem Core.inner (C : Core prog w Γ K σ ps s F m cm fps) {L : Addr} (hL : L ∈ K.x) {mL : Str → Option Value} (hns : s.heap.Ns L mL) (e1 : Γ'.env.locals = L) (e2 : Γ'.oc = []) (e3 : Γ'.sh = s) (e4 : Γ'.F0 = F) (e5 : Γ'.fps0 = fps) (e6 : Γ'.lo = s.toks) (hok : Γ'.Ok prog w)
    (hB : ∀ b o, Γ'.hB b = some o → F b = some o) (hX : ∀ b o, Γ'.hX b = some o → b ≠ L ∧ b ∉ alive (mask σ.objs) fps ∧ s.heap.get? b = some o) (hq : ∀ p ∈ qs, VR w F (rho fps) p.1 p.2) :
    Core prog w Γ' (inK L σ.objs fps s.heap) ⟨Γ'.names.map fun x => (x, .undef), mask σ.objs⟩ qs s F mL (fun _ => none) fps := by
  obtain ⟨hFL, ⟨oL, hKL⟩, hshL⟩ := C.held L hL
  have hLh := C.keptH L oL hKL
  have hLs := C.kept L oL hKL
  have hh : Γ'.hot (mask σ.objs) fps = L :: alive (mask σ.objs) fps := by unfold Cx.hot; rw [e1, e2]; rfl
  have hsubA : ∀ b, b ∈ alive (mask σ.objs) fps → b ∈ Γ.hot σ.objs fps := fun b hb => List.mem_cons_of_mem _ (List.mem_append_right _ (mask_sub.mem hb))
  have hno : ∀ b, b ∉ Γ.hot σ.objs fps → b ≠ L → b ∉ Γ'.hot (mask σ.objs) fps := fun b h1 h2 h3 => by
    rw [hh] at h3; rcases List.mem_cons.mp h3 with q | q
    · exact h2 q
    · exact h1 (hsubA b q)
  exact {
    ok := hok
    base := hB
    frz := C.frz
    frzH := fun b o e => hno b (C.frzH b o e) fun q => by rw [q, hFL] at e; cases e
    kept := fun b o e => by dsimp only at e; split at e; (· cases e); (· exact e)
    keptH := fun b o e hb => by
      rw [hh] at hb; dsimp only at e
      rw [if_pos (List.mem_cons.mp hb)] at e; cases e
    hx := fun b o e => by
      obtain ⟨h1, h2, h3⟩ := hX b o e
      dsimp only; rw [if_neg (fun q => q.elim h1 h2)]; exact h3
    held := fun b hb => nomatch hb
    hot := by
      rw [hh]
      obtain ⟨n1, n2⟩ := List.nodup_cons.mp C.hot
      exact List.nodup_cons.mpr ⟨fun h => hLh (hsubA L h), (List.nodup_append.mp n2).2.1.sublist mask_sub⟩
    live := fun b hb => by
      rw [hh] at hb; rcases List.mem_cons.mp hb with q | q
      · subst q; exact ⟨oL, hLs⟩
      · exact C.live b (hsubA b q)
    ns := by rw [e1]; exact hns
    cell := fun n c h => by rw [e2] at h; cases h
    keys := by rw [List.map_map]; exact List.map_id' _
    loc := fun x mv hx => by
      obtain ⟨y, _, e⟩ := List.mem_map.mp hx
      cases e; exact .inl rfl
    len := by rw [C.len]; simp [mask]
    pre := ⟨[], by rw [e5]; simp⟩
    trk := fun k o hk => C.trk k o (mask_get hk).1
    ps := hq
    tok := by rw [e6]; exact Nat.le_refl _
    same := ⟨s.heap, s.toks, by rw [e3]⟩
    lim := fun b o e => .inl (by rw [e4]; exact e)
    ext := fun b o e => ⟨o, by rw [e3] at e; exact e⟩
    ownL := fun k xs fp hk => by obtain ⟨_, e, h⟩ := mask_get hk; cases h }

theorem Turned.mask {os os' : List (Option MO)} (h : Turned os os') : Turned (mask os) (mask os') := by
  induction h with
  | nil => exact .nil
  | same o _ ih => exact .same _ ih
  | ext e e' _ ih => exact .ext e e' ih
theorem alive_inv {a : Addr} : ∀ {os : List (Option MO)} {fps : List (List Addr)}, a ∈ alive os fps → ∃ (j : Nat) (o : MO) (fp : List Addr), os[j]? = some (some o) ∧ fps[j]? = some fp ∧ a ∈ fp
  | [], fps, h => by cases fps <;> simp [alive] at h
  | x :: os, [], h => by rw [alive_nil] at h; cases h
  | none :: os, f :: fps, h => by
    obtain ⟨j, o, fp, h1, h2, h3⟩ := alive_inv (os := os) (fps := fps) h
    exact ⟨j + 1, o, fp, by simpa using h1, by simpa using h2, h3⟩
  | some x :: os, f :: fps, h => by
    rcases List.mem_append.mp h with h | h
    · exact ⟨0, x, f, rfl, rfl, h⟩
    · obtain ⟨j, o, fp, h1, h2, h3⟩ := alive_inv (os := os) (fps := fps) h
      exact ⟨j + 1, o, fp, by simpa using h1, by simpa using h2, h3⟩
theorem Core.back (C : Core prog w Γ K σ ps s F m cm fps) {L : Addr} (hL : L ∈ K.x) (hXL : Γ.hX L = none) (e1 : Γ'.env.locals = L) (e2 : Γ'.oc = []) (e3 : Γ'.sh = s) (e4 : Γ'.F0 = F) (e5 : Γ'.fps0 = fps) (e6 : Γ'.lo = s.toks) {objs : List (Option MO)} (ht : Turned σ.objs objs) (ho : σ'.objs = mask objs)
    (C' : Core prog w Γ' (inK L σ.objs fps s.heap) σ' qs s' F' m' cm' fps') :
    ∃ F'' oL, Core prog w Γ ⟨fun b => if b = L then some oL else K.f b, K.x⟩ ⟨σ.loc, objs⟩ ps s' F'' m cm fps ∧ s'.heap.Ns L m' ∧ s'.heap.get? L = some oL ∧ (∀ r u, (r, u) ∈ qs → Closed r → VR w F'' (rho fps) r u) := by
  obtain ⟨hFL, ⟨oL, hKL⟩, hshL⟩ := C.held L hL
  have hLh := C.keptH L oL hKL
  have hLs := C.kept L oL hKL
  have hmo : alive (mask objs) fps = alive (mask σ.objs) fps := ht.mask.alive.symm
  have hfps : fps' = fps := by
    obtain ⟨l, e⟩ := C'.pre
    have h1 := C'.len
    rw [ho] at h1
    have h2 : (mask objs).length = fps.length := by unfold mask; rw [List.length_map, ← ht.len, C.len]
    rw [h2, e, e5, List.length_append] at h1
    have : l = [] := List.length_eq_zero_iff.mp (by omega)
    rw [e, e5, this, List.append_nil]
  subst hfps
  have hhot' : Γ'.hot σ'.objs fps' = L :: alive (mask σ.objs) fps' := by unfold Cx.hot; rw [e1, e2, ho, hmo]; rfl
  have hsubA : ∀ b, b ∈ alive (mask σ.objs) fps' → b ∈ Γ.hot σ.objs fps' := fun b hb => List.mem_cons_of_mem _ (List.mem_append_right _ (mask_sub.mem hb))
  have hk : ∀ b o, b ≠ L → b ∉ alive (mask σ.objs) fps' → s.heap.get? b = some o → s'.heap.get? b = some o := fun b o h1 h2 e => C'.kept b o (by dsimp only; rw [if_neg (fun q => q.elim h1 h2)]; exact e)
  have hlive' : ∀ b o, s.heap.get? b = some o → ∃ o', s'.heap.get? b = some o' := fun b o e => by
    by_cases q : b ∈ Γ'.hot σ'.objs fps'
    · exact C'.live b q
    · rw [hhot', List.mem_cons, not_or] at q; exact ⟨o, hk b o q.1 q.2 e⟩
  have hFk : ∀ b o, F b = some o → s'.heap.get? b = some o := fun b o e => hk b o (fun q => by rw [q, hFL] at e; cases e) (fun q => C.frzH b o e (hsubA b q)) (C.frz b o e)
  have hKk : ∀ b o, b ≠ L → K.f b = some o → s'.heap.get? b = some o := fun b o h1 e => hk b o h1 (fun q => C.keptH b o e (hsubA b q)) (C.kept b o e)
  have hlim : ∀ b o, F' b = some o → F b = some o ∨ s.heap.get? b = none := fun b o e => by have := C'.lim b o e; rw [e3, e4] at this; exact this
  obtain ⟨oL', hLs'⟩ := hlive' L oL hLs
  have hhot : Γ.hot objs fps' = Γ.hot σ.objs fps' := by unfold Cx.hot; rw [ht.alive]
  let F'' : Frz := fun b => if (F b).isSome then F b else F' b
  have hS1 : Sub F F'' := fun b o e => by show (if (F b).isSome then F b else F' b) = _; rw [e]; rfl
  have hS2 : Sub F' F'' := fun b o e => by
    show (if (F b).isSome then F b else F' b) = _
    split
    · rename_i q
      obtain ⟨o', ho'⟩ := Option.isSome_iff_exists.mp q
      have h1 := hFk b o' ho'
      have h2 := C'.frz b o e
      rw [h1] at h2; cases h2; exact ho'
    · exact e
  have hF'' : ∀ b o, F'' b = some o → F b = some o ∨ (F' b = some o ∧ s.heap.get? b = none) := fun b o e => by
    have e : (if (F b).isSome then F b else F' b) = some o := e
    split at e
    · exact .inl e
    · rename_i q
      rcases hlim b o e with h | h
      · exact .inl h
      · exact .inr ⟨e, h⟩
  refine ⟨F'', oL', ?_, by rw [← e1]; exact C'.ns, hLs', fun r u hm hc => ?_⟩
  · exact {
      ok := C.ok
      base := fun b o e => hS1 b o (C.base b o e)
      frz := fun b o e => (hF'' b o e).elim (hFk b o) fun h => C'.frz b o h.1
      frzH := fun b o e hb => by
        rw [hhot] at hb
        rcases hF'' b o e with h | h
        · exact C.frzH b o h hb
        · obtain ⟨x, h'⟩ := C.live b hb; rw [h.2] at h'; cases h'
      kept := fun b o e => by
        dsimp only at e; split at e
        · rename_i q; subst q; cases e; exact hLs'
        · rename_i q; exact hKk b o q e
      keptH := fun b o e hb => by
        rw [hhot] at hb; dsimp only at e; split at e
        · rename_i q; subst q; exact hLh hb
        · exact C.keptH b o e hb
      hx := fun b o e => by
        dsimp only; rw [if_neg (fun q => by rw [q, hXL] at e; cases e)]; exact C.hx b o e
      held := fun b hb => by
        obtain ⟨h1, ⟨x, h2⟩, h3⟩ := C.held b hb
        refine ⟨?_, ?_, h3⟩
        · cases e : F'' b with
          | none => rfl
          | some x' =>
            rcases hF'' b x' e with h | h
            · rw [h1] at h; cases h
            · rw [C.kept b x h2] at h; cases h.2
        · dsimp only; split
          · exact ⟨_, rfl⟩
          · exact ⟨x, h2⟩
      hot := by rw [hhot]; exact C.hot
      live := fun b hb => by rw [hhot] at hb; obtain ⟨x, e⟩ := C.live b hb; exact hlive' b x e
      ns := by
        obtain ⟨n1, n2⟩ := List.nodup_cons.mp C.hot
        exact C.ns.at' fun o e => hk _ o (fun q => hLh (q ▸ .head _)) (fun q => n1 (List.mem_append_right _ (mask_sub.mem q))) e
      cell := fun n c h => by
        obtain ⟨x, e, d⟩ := C.cell n c h
        obtain ⟨n1, n2⟩ := List.nodup_cons.mp C.hot
        obtain ⟨n3, n4, n5⟩ := List.nodup_append.mp n2
        have hcm : c ∈ Γ.oc.map (·.2) := List.mem_map.mpr ⟨(n, c), mem_of_lookup h, rfl⟩
        exact ⟨x, hk _ _ (fun q => hLh (q ▸ List.mem_cons_of_mem _ (List.mem_append_left _ hcm))) (fun q => n5 c hcm c (mask_sub.mem q) rfl) e, d⟩
      keys := C.keys
      loc := fun x mv hx => (C.loc x mv hx).imp id fun ⟨v, h1, h2, h3⟩ => ⟨v, h1, h2, h3.mono hS1 fun _ _ e => e⟩
      len := by rw [← ht.len]; exact C.len
      pre := C.pre
      trk := fun k o hk' => by
        rcases ht.get hk' with h | ⟨⟨e, rfl⟩, e', h⟩
        · cases o with
          | lst xs =>
            obtain ⟨fp, hfp, hr⟩ := C.trk k _ h
            refine ⟨fp, hfp, (hr.mono hS1 fun _ _ e => e).stab fun a ha => ?_⟩
            obtain ⟨x, e⟩ := C.live a (C.mem_hot h hfp ha)
            rw [e]
            refine hk a x (fun q => hLh (q ▸ C.mem_hot h hfp ha)) (fun q => ?_) e
            obtain ⟨j, o', fp', h1, h2, h3⟩ := alive_inv q
            obtain ⟨h1, e1, rfl⟩ := mask_get h1
            obtain ⟨n1, n2⟩ := List.nodup_cons.mp C.hot
            refine alive_apart (List.nodup_append.mp n2).2.1 h hfp h1 h2 (fun q => ?_) a ha h3
            subst q; rw [h] at h1; cases h1
          | ext e =>
            obtain ⟨fp, hfp, hr⟩ := C'.trk k (.ext e) (by rw [ho]; exact mask_of hk')
            exact ⟨fp, hfp, hr.mono hS2 fun _ _ e => e⟩
        · obtain ⟨fp, hfp, hr⟩ := C'.trk k (.ext e) (by rw [ho]; exact mask_of hk')
          exact ⟨fp, hfp, hr.mono hS2 fun _ _ e => e⟩
      ps := fun p hp => (C.ps p hp).mono hS1 fun _ _ e => e
      tok := Nat.le_trans C.tok (e6 ▸ C'.tok)
      same := by
        obtain ⟨h, tk, e⟩ := C'.same
        obtain ⟨h₀, tk₀, e₀⟩ := C.same
        exact ⟨h, tk, by rw [e, e3]; rw [e₀]⟩
      lim := fun b o e => by
        rcases hF'' b o e with h | h
        · exact C.lim b o h
        · cases q : Γ.sh.heap.get? b with
          | none => exact .inr rfl
          | some x => obtain ⟨y, e'⟩ := C.ext b x q; rw [h.2] at e'; cases e'
      ext := fun b o e => let ⟨x, e'⟩ := C.ext b o e; hlive' b x e'
      ownL := fun k xs fp hk' => by
        rcases ht.get hk' with h | ⟨⟨e, h⟩, _⟩
        · exact C.ownL k xs fp h
        · cases h }
  · have h1 : VR w F' (rho fps') r u := C'.ps (r, u) hm
    exact ((hc w F' _ u h1).mono hS2 fun _ _ e => by cases e)

variable {prog : Program} {w : World} {Γ Γ' : Cx} {K K' : Kp} {σ σ' : St} {ps qs : List (MV × Value)} {s s' : Shared} {F F' : Frz} {m cm m' cm' : Str → Option Value} {fps fps' : List (List Addr)}
variable {Q : MV → St → Prop} {QB : Bool → St → Prop} {QF : MF → St → Prop} {QU : St → Prop} {QL : List MV → St → Prop}

theorem closure_go {env : Env} : ∀ (l : List (Str × NameKind)) (acc : List (Str × Addr)), (∀ n, (n, NameKind.free) ∈ l → ∃ c, env.cells.lookup n = some c) →
    ∃ cl, (forIn l acc fun (x : Str × NameKind) cs => (if x.2 == .free then do let c ← cellOf env x.1; pure (ForInStep.yield ((x.1, c) :: cs)) else pure (ForInStep.yield cs) : Sem (ForInStep (List (Str × Addr))))) = pure cl ∧
      (∀ n c, acc.lookup n = some c → env.cells.lookup n = some c → cl.lookup n = some c) ∧ ∀ n c, (n, NameKind.free) ∈ l → env.cells.lookup n = some c → cl.lookup n = some c
  | [], acc, _ => ⟨acc, rfl, fun _ _ h _ => h, fun _ _ h => nomatch h⟩
  | (x, k) :: l, acc, h => by
    by_cases hk : k = .free
    · subst hk
      obtain ⟨c, hc⟩ := h x (.head _)
      obtain ⟨cl, e, h1, h2⟩ := closure_go l ((x, c) :: acc) fun n hn => h n (.tail _ hn)
      refine ⟨cl, ?_, fun n d hn hd => ?_, fun n d hn hd => ?_⟩
      · rw [List.forIn_cons]
        simp only [beq_self_eq_true, if_true, cellOf, hc, pure_bind]
        exact e
      · refine h1 n d ?_ hd
        rw [List.lookup_cons]
        by_cases q : n = x
        · subst q; rw [hc] at hd; cases hd; simp
        · rw [show (n == x) = false by simpa using q]; exact hn
      · rcases List.mem_cons.mp hn with q | q
        · cases q; rw [hc] at hd; cases hd; exact h1 _ _ (by simp) hc
        · exact h2 n d q hd
    · obtain ⟨cl, e, h1, h2⟩ := closure_go l acc fun n hn => h n (.tail _ hn)
      have hb : (k == NameKind.free) = false := by simpa using hk
      refine ⟨cl, ?_, h1, fun n d hn hd => ?_⟩
      · rw [List.forIn_cons]
        simp only [hb, Bool.false_eq_true, if_false, pure_bind]
        exact e
      · rcases List.mem_cons.mp hn with q | q
        · cases q; exact absurd rfl hk
        · exact h2 n d q hd
theorem closure_some {scope : Scope} {env : Env} (h : ∀ n, (n, NameKind.free) ∈ scope.names → ∃ c, env.cells.lookup n = some c) :
    ∃ cl, closureFor scope env = pure cl ∧ ∀ n c, (n, NameKind.free) ∈ scope.names → env.cells.lookup n = some c → cl.lookup n = some c := by
  obtain ⟨cl, e, _, h2⟩ := closure_go (env := env) scope.names [] h
  refine ⟨cl, ?_, h2⟩
  unfold closureFor
  have : (forIn scope.names ([] : List (Str × Addr)) fun (x : Str × NameKind) cs => (do
      let (name, kind) := x
      let mut cs := cs
      if kind == .free then cs := (name, ← cellOf env name) :: cs
      pure (ForInStep.yield cs) : Sem (ForInStep (List (Str × Addr))))) = pure cl := by
    exact e
  exact (congrArg (· >>= pure) this).trans (pure_bind ..)

noncomputable abbrev Kp.h3 (K : Kp) (I : Addr) (oI : Obj) (D : Addr) (oD : Obj) (L : Addr) (oL : Obj) : Kp := ((K.hold I oI).hold D oD).hold L oL
section
variable {I D L : Addr} {oI oD oL o' : Obj} {h' : Heap}
theorem Rel.renewI (h : Rel prog w Γ (K.h3 I oI D oD L oL) σ ps s) (hID : I ≠ D) (hIL : I ≠ L) (hX : Γ.hX I = none) (he : ∀ b x, b ≠ I → s.heap.get? b = some x → h'.get? b = some x) (ho : h'.get? I = some o') (t : Nat) (ht : s.toks ≤ t := by first | exact Nat.le_refl _ | exact Nat.le_succ _ | omega | (dsimp only; omega)) :
    Rel prog w Γ (K.h3 I o' D oD L oL) σ ps { s with heap := h', toks := t } := by
  have h1 : Rel prog w Γ (((K.hold D oD).hold L oL).hold I oI) σ ps s := h.kp (fun b => by
    dsimp only
    by_cases q : b = I
    · subst q; rw [if_pos rfl, if_neg hIL, if_neg hID, if_pos rfl]
    · rw [if_neg q, if_neg q]) (fun b hb => by simp only [List.mem_cons] at hb ⊢; rcases hb with q | q | q | q <;> simp [q])
  exact (h1.renew hX he ho t ht).kp (fun b => by
    dsimp only
    by_cases q : b = I
    · subst q; rw [if_pos rfl, if_neg hIL, if_neg hID, if_pos rfl]
    · rw [if_neg q, if_neg q]) (fun b hb => by simp only [List.mem_cons] at hb ⊢; rcases hb with q | q | q | q <;> simp [q])
theorem Rel.renewD (h : Rel prog w Γ (K.h3 I oI D oD L oL) σ ps s) (hDL : D ≠ L) (hX : Γ.hX D = none) (he : ∀ b x, b ≠ D → s.heap.get? b = some x → h'.get? b = some x) (ho : h'.get? D = some o') (t : Nat) (ht : s.toks ≤ t := by first | exact Nat.le_refl _ | exact Nat.le_succ _ | omega | (dsimp only; omega)) :
    Rel prog w Γ (K.h3 I oI D o' L oL) σ ps { s with heap := h', toks := t } := by
  have h1 : Rel prog w Γ (((K.hold I oI).hold L oL).hold D oD) σ ps s := h.kp (fun b => by
    dsimp only
    by_cases q : b = D
    · subst q; rw [if_pos rfl, if_neg hDL, if_pos rfl]
    · rw [if_neg q, if_neg q]) (fun b hb => by simp only [List.mem_cons] at hb ⊢; rcases hb with q | q | q | q <;> simp [q])
  exact (h1.renew hX he ho t ht).kp (fun b => by
    dsimp only
    by_cases q : b = D
    · subst q; rw [if_pos rfl, if_neg hDL, if_pos rfl]
    · rw [if_neg q, if_neg q]) (fun b hb => by simp only [List.mem_cons] at hb ⊢; rcases hb with q | q | q | q <;> simp [q])
/-- what was held is frozen -/
theorem Rel.freezeAny {x : MV} (h : Rel prog w Γ (K.hold D oD) σ (qs ++ ps) s) (hD : K.f D = none) (hKx : ∀ b ∈ K.x, ∃ o, K.f b = some o) (hXK : ∀ b o, Γ.hX b = some o → K.f b = some o)
    (hv : ∀ (F' : Frz) (ρ : Nat → Option Addr), F' D = some oD → (∀ p ∈ qs, VR w F' ρ p.1 p.2) → VR w F' ρ x (.ref D)) : Rel prog w Γ K σ ((x, .ref D) :: ps) s := by
  obtain ⟨F, m, cm, fps, C⟩ := h
  obtain ⟨h1, _, h3⟩ := C.held D (.head _)
  have hDh := C.keptH D _ (if_pos rfl)
  have hDs := C.kept D _ (if_pos rfl)
  have hS := Frz.put_sub (o := oD) h1
  have hne : ∀ b o, K.f b = some o → b ≠ D := fun b o e q => by rw [q, hD] at e; cases e
  refine ⟨F.put D oD, m, cm, fps, Core.cons (x := x) (v := .ref D) { C with
    base := fun b o e => hS b o (C.base b o e)
    frz := fun b o e => by
      unfold Frz.put at e; split at e
      · rename_i q; subst q; cases e; exact hDs
      · exact C.frz b o e
    frzH := fun b o e => by
      unfold Frz.put at e; split at e
      · rename_i q; subst q; exact hDh
      · exact C.frzH b o e
    kept := fun b o e => C.kept b o ((if_neg (hne b o e)).trans e)
    keptH := fun b o e => C.keptH b o ((if_neg (hne b o e)).trans e)
    hx := hXK
    held := fun b hb => by
      obtain ⟨g1, _, g3⟩ := C.held b (.tail _ hb)
      refine ⟨?_, hKx b hb, g3⟩
      obtain ⟨o, e⟩ := hKx b hb
      unfold Frz.put; rw [if_neg (hne b o e)]; exact g1
    loc := fun x mv hx => (C.loc x mv hx).imp id fun ⟨v, a, b, c⟩ => ⟨v, a, b, c.mono hS fun _ _ e => e⟩
    trk := fun k o hk => let ⟨fp, a, b⟩ := C.trk k o hk; ⟨fp, a, b.mono hS fun _ _ e => e⟩
    ps := fun p hp => (C.ps p (List.mem_append_right _ hp)).mono hS fun _ _ e => e
    lim := fun b o e => by
      unfold Frz.put at e; split at e
      · rename_i q; subst q; exact .inr h3
      · exact C.lim b o e } (hv _ _ Frz.put_self fun p hp => (C.ps p (List.mem_append_left _ hp)).mono hS fun _ _ e => e)⟩
theorem zip_vrs {ρ : Nat → Option Addr} {xs : List MV} {vs : List Value} (hl : vs.length = xs.length) (h : ∀ p ∈ xs.zip vs, VR w F ρ p.1 p.2) : VRs w F ρ xs vs :=
  ⟨hl, fun i x v hx hv => h (x, v) (List.mem_iff_getElem?.mpr ⟨i, List.getElem?_zip_eq_some.mpr ⟨hx, hv⟩⟩)⟩
/-- at the end the list is frozen -/
theorem Rel.freezeD {xs : List MV} {vs : List Value} {n : Nat} (h : Rel prog w Γ ((K.hold I oI).hold D (listO vs n)) σ (xs.zip vs ++ ps) s) (hl : vs.length = xs.length) (hD : (K.hold I oI).f D = none) (hKx : ∀ b ∈ (K.hold I oI).x, ∃ o, (K.hold I oI).f b = some o) (hXK : ∀ b o, Γ.hX b = some o → (K.hold I oI).f b = some o) :
    Rel prog w Γ (K.hold I oI) σ ((.list xs, .ref D) :: ps) s :=
  Rel.freezeAny h hD hKx hXK fun F' ρ hF hz => let hz' := zip_vrs hl hz; .list D xs vs n hF hz'.1 hz'.2
end

structure CompSc (scope sc' : Scope) (names cs : List Str) : Prop where
  kind : scope.kind = .function
  nocell : ∀ y ∈ scope.names, y.2 ≠ .cell
  loc : ∀ y ∈ scope.names, y.2 = .local → scope.names.lookup y.1 = some .local
  nodup : names.Nodup
  inner : ∀ x ∈ names, (x == ("__debug__" : Str)) = false ∧ scope.names.lookup x = some .local
  free : ∀ y ∈ scope.names, y.2 = .free → y.1 ∈ cs
  cell : ∀ x ∈ cs, (x == ("__debug__" : Str)) = false ∧ sc'.names.lookup x = some .cell ∧ (x, NameKind.free) ∈ scope.names
noncomputable def ifsTree (ifs : List Expr) (env : Env) : Sem Bool := forIn ifs true fun c r => if r = true then do let ok ← isTrue c env (eval c env); pure (ForInStep.yield ok) else pure (ForInStep.yield r)
noncomputable def WPi (prog : Program) (w : World) (Γ : Cx) (σ : St) (ifs : List Expr) (Q : Bool → St → Prop) : Prop :=
  ∀ (K : Kp) (ps : List (MV × Value)) (s : Shared) (R : Bool → Shared → Prop), Rel prog w Γ K σ ps s → (∀ b σ' s', Q b σ' → Rel prog w Γ K σ' ps s' → R b s') → wpAny (model prog w) Γ.A (ifsTree ifs Γ.env) R (fun _ _ => False) s
theorem wi_nil (h : QB true σ) : WPi prog w Γ σ [] QB := fun _ _ s _ r hR => wpAny_pure (hR _ _ s h r)
theorem wi_one {c : Expr} (h : WPt prog w Γ σ c QB) : WPi prog w Γ σ [c] QB := by
  intro K ps s R r hR
  unfold ifsTree
  rw [List.forIn_cons]
  refine wpAny_bind ?_
  rw [if_pos rfl]
  refine wpAny_bind (h K ps s _ r fun b σ' s' q r' => wpAny_pure ?_)
  exact wpAny_pure (hR b σ' s' q r')
noncomputable def WPcomp (prog : Program) (w : World) (P : Cx → Prop) (tgt : Expr) (ifs : List Expr) (elt : Expr) (names : List Str) (Qc : List MV → List (Option MO) → Prop) : List MV → List MV → List (Option MO) → Prop
  | [], acc, objs => Qc acc objs
  | y :: ys, acc, objs => ∀ Γ', P Γ' → WU1 prog w Γ' ⟨names.map fun x => (x, .undef), mask objs⟩ y (assign tgt Γ'.env) fun σ' => WPi prog w Γ' σ' ifs fun b σ'' =>
      (b = true → WPe prog w Γ' σ'' elt fun r σ₃ => Closed r ∧ ∃ objs₁, Turned objs objs₁ ∧ σ₃.objs = mask objs₁ ∧ WPcomp prog w P tgt ifs elt names Qc ys (acc ++ [r]) objs₁) ∧
      (b = false → ∃ objs₁, Turned objs objs₁ ∧ σ''.objs = mask objs₁ ∧ WPcomp prog w P tgt ifs elt names Qc ys acc objs₁)
/-- the inner text's world -/
noncomputable abbrev compΓ (Γ : Cx) (scope : Scope) (cl : List (Str × Addr)) (L : Addr) (s : Shared) (F : Frz) (fps : List (List Addr)) (glob : List (Str × MV)) (names : List Str) : Cx :=
  { env := compEnvC scope cl L Γ.env, oc := [], A := Γ.A, hB := F, hX := fun b => if b ∈ Γ.oc.map (·.2) then s.heap.get? b else Γ.hX b, glob := glob, names := names, sh := s, F0 := F, fps0 := fps, lo := s.toks }

theorem comp_ok {hB : Heap} {ℓ : Nat} {sc sc' : Scope} {gl cells globs : List (Str × MV)} {scope : Scope} {names : List Str} {cl : List (Str × Addr)} {L : Addr} (hΓ : Γof sc Γ hB ℓ gl) (hre : relabel scope Γ.env = sc') (S : CompSc scope sc' names (cells.map (·.1)))
    (hglob : GlobOk prog w sc' hB globs) (C : Core prog w Γ K σ ps s F m cm fps) (hc : ∀ p ∈ cells, p ∈ σ.loc ∧ p.2.ok = true ∧ Closed p.2 ∧ Γ.env.kindOf p.1 = some .cell) (hcl : ∀ n c, (n, NameKind.free) ∈ scope.names → Γ.env.cells.lookup n = some c → cl.lookup n = some c) :
    (compΓ Γ scope cl L s F fps (cells ++ globs) names).Ok prog w ∧ Γof sc' (compΓ Γ scope cl L s F fps (cells ++ globs) names) hB ℓ (cells ++ globs) := by
  obtain ⟨g1, g2, g3, g4, g5, g6, g7⟩ := hΓ
  refine ⟨?_, hre, fun b o e => C.base b o (g2 b o e), rfl, g4, g5, g6, g7⟩
  exact {
    kind := S.kind
    nodup := S.nodup
    kinds := fun x hx => ⟨(S.inner x hx).1, .inl (lookup_relabel_local (S.inner x hx).2)⟩
    ocs := fun n c e => by cases e
    glob := fun x mv hx => by
      rcases List.mem_append.mp hx with hx | hx
      · obtain ⟨h1, h2, h3, h4⟩ := hc _ hx
        obtain ⟨d1, d2, d3⟩ := S.cell x (List.mem_map.mpr ⟨_, hx, rfl⟩)
        obtain ⟨v, _, hv, hr⟩ := (C.loc x mv h1).resolve_left (MV.ne h2)
        obtain ⟨_, hk⟩ := C.ok.kinds x (C.keys ▸ List.mem_map.mpr ⟨_, h1, rfl⟩)
        rcases hk with hk | ⟨hk, c, hoc⟩
        · rw [h4] at hk; cases hk
        · have hcc := C.cell x c hoc
          rw [hv h4] at hcc
          refine ⟨v, h3 w F _ v hr, fun A E s' Q p hB' hX' hQ => ?_⟩
          have hlk : (compΓ Γ scope cl L s F fps (cells ++ globs) names).env.cells.lookup x = some c := hcl x c d3 (C.ok.ocs _ _ hoc)
          have hkd : (compΓ Γ scope cl L s F fps (cells ++ globs) names).env.kindOf x = some .cell := by
            show (relabel scope Γ.env).names.lookup x = _
            rw [hre]; exact d2
          obtain ⟨o, ho, hd⟩ := hcc
          refine wpAny_Name (wpAny_loadName_cell (by exact S.kind) hkd hlk ⟨o, hX' c o ?_, hd⟩ hQ) d1
          show (if c ∈ Γ.oc.map (·.2) then s.heap.get? c else Γ.hX c) = _
          rw [if_pos (List.mem_map.mpr ⟨(x, c), mem_of_lookup hoc, rfl⟩)]; exact ho
      · obtain ⟨v, h1, h2⟩ := hglob x mv hx
        exact ⟨v, h1.mono (fun b o e => C.base b o (g2 b o e)) fun _ _ e => e, fun A E s' Q p hB' _ hQ => h2 _ A E s' Q p hre g6 g7 (fun b o e => hB' b o (C.base b o (g2 b o e))) hQ⟩
    room := C.ok.room
    units := C.ok.units
    handled := C.ok.handled
    lo1 := Nat.le_trans C.ok.lo1 C.tok }

variable {prog : Program} {w : World} {Γ Γ' : Cx} {K K' : Kp} {σ σ' : St} {ps qs : List (MV × Value)} {s s' : Shared} {F F' : Frz} {m cm m' cm' : Str → Option Value} {fps fps' : List (List Addr)}
variable {Q : MV → St → Prop} {QB : Bool → St → Prop} {QF : MF → St → Prop} {QU : St → Prop} {QL : List MV → St → Prop}

section
variable {I D L : Addr} {oI oD oL : Obj}
theorem Turned.trans {a b c : List (Option MO)} (h : Turned a b) : Turned b c → Turned a c := by
  induction h generalizing c with
  | nil => exact fun h => h
  | same o _ ih => intro h; cases h with
    | same _ h => exact .same _ (ih h)
    | ext e e' h => exact .ext _ _ (ih h)
  | ext e e' _ ih => intro h; cases h with
    | same _ h => exact .ext _ _ (ih h)
    | ext _ e'' h => exact .ext _ _ (ih h)
/-- one inner text: run from within, told from without -/
theorem Rel.within {hB : Heap} {ℓ : Nat} {sc sc' : Scope} {gl cells globs : List (Str × MV)} {scope : Scope} {names : List Str} {cl : List (Str × Addr)} (hΓ : Γof sc Γ hB ℓ gl) (hre : relabel scope Γ.env = sc') (S : CompSc scope sc' names (cells.map (·.1)))
    (hglob : GlobOk prog w sc' hB globs) (hc : ∀ p ∈ cells, p ∈ σ.loc ∧ p.2.ok = true ∧ Closed p.2 ∧ Γ.env.kindOf p.1 = some .cell) (hcl : ∀ n c, (n, NameKind.free) ∈ scope.names → Γ.env.cells.lookup n = some c → cl.lookup n = some c)
    (h : Rel prog w Γ (K.hold L oL) σ ps s) (hXL : Γ.hX L = none) {mL : Str → Option Value} (hns : s.heap.Ns L mL) {y : MV} {v : Value} (hy : (y, v) ∈ ps) :
    ∃ Γ' K', Γof sc' Γ' hB ℓ (cells ++ globs) ∧ Γ'.A = Γ.A ∧ Γ'.env = compEnvC scope cl L Γ.env ∧ Rel prog w Γ' K' ⟨names.map fun x => (x, .undef), mask σ.objs⟩ [(y, v)] s ∧
      ∀ (σ' : St) qs s' objs, σ'.objs = mask objs → Turned σ.objs objs → (∀ p ∈ qs, Closed p.1) → Rel prog w Γ' K' σ' qs s' → ∃ oL' mL', s'.heap.Ns L mL' ∧ Rel prog w Γ (K.hold L oL') ⟨σ.loc, objs⟩ (qs ++ ps) s' ∧ s'.heap.get? L = some oL' := by
  obtain ⟨F, m, cm, fps, C⟩ := h
  obtain ⟨ok, hΓ'⟩ := comp_ok (L := L) (s := s) hΓ hre S hglob C hc hcl
  have hap : ∀ c, c ∈ Γ.oc.map (·.2) → c ∉ alive (mask σ.objs) fps := fun c hc hm => by
    obtain ⟨n1, n2⟩ := List.nodup_cons.mp C.hot
    exact (List.nodup_append.mp n2).2.2 c hc c (mask_sub.mem hm) rfl
  have hLh := C.keptH L oL (if_pos rfl)
  have C₁ := C.inner (Γ' := compΓ Γ scope cl L s F fps (cells ++ globs) names) (L := L) (.head _) hns rfl rfl rfl rfl rfl rfl ok (fun b o e => e) (fun b o e => by
    have e : (if b ∈ Γ.oc.map (·.2) then s.heap.get? b else Γ.hX b) = some o := e
    split at e
    · rename_i q
      exact ⟨fun q' => hLh (q' ▸ List.mem_cons_of_mem _ (List.mem_append_left _ q)), hap b q, e⟩
    · have hk := C.hx b o e
      exact ⟨fun q' => (by rw [q', hXL] at e; cases e), fun hm => C.keptH b o hk (List.mem_cons_of_mem _ (List.mem_append_right _ (mask_sub.mem hm))), C.kept b o hk⟩) (qs := [(y, v)]) (fun p hp => C.ps p (by simp at hp; rw [hp]; exact hy))
  refine ⟨_, _, hΓ', rfl, rfl, ⟨F, mL, _, fps, C₁⟩, fun σ' qs s' objs ho ht hq hr => ?_⟩
  obtain ⟨F', m', cm', fps', C'⟩ := hr
  obtain ⟨F'', oL', C'', h1, h2, h3⟩ := C.back (L := L) (.head _) hXL (Γ' := compΓ Γ scope cl L s F fps (cells ++ globs) names) rfl rfl rfl rfl rfl rfl ht ho C'
  have C₃ : Core prog w Γ ⟨fun b => if b = L then some oL' else K.f b, L :: K.x⟩ ⟨σ.loc, objs⟩ ps s' F'' m cm fps := by
    have : (fun b => if b = L then some oL' else (K.hold L oL).f b) = fun b => if b = L then some oL' else K.f b := by
      funext b; split
      · rfl
      · rename_i q; exact if_neg q
    rw [this] at C''; exact C''
  refine ⟨oL', m', h1, ⟨F'', m, cm, fps, C₃.setps fun p hp => ?_⟩, h2⟩
  rcases List.mem_append.mp hp with hp | hp
  · exact h3 p.1 p.2 hp (hq p hp)
  · exact C₃.ps p hp
end
/-- the text of a comprehension is at its end: the iterator is let go, the list is frozen -/
theorem Rel.outI {I D L : Addr} {oI oL : Obj} {x : MV} {v : Value} {acc : List MV} {vs : List Value} {nD : Nat} {h' : Heap} (hID : I ≠ D) (hIL : I ≠ L) (hDL : D ≠ L) (hKI : K.f I = none) (hDK : K.f D = none) (hKL : K.f L = none) (hXD : Γ.hX D = none) (hXL : Γ.hX L = none)
    (kx : (∀ b ∈ K.x, ∃ o, K.f b = some o) ∧ (∀ b o, Γ.hX b = some o → K.f b = some o)) (hvl : vs.length = acc.length) (r : Rel prog w Γ (K.h3 I oI D (listO vs nD) L oL) σ (acc.zip vs ++ (x, v) :: ps) s)
    (hk : ∀ b x, b ≠ I → s.heap.get? b = some x → h'.get? b = some x) (tk : Nat) (ht : s.toks ≤ tk) : Rel prog w Γ (K.hold L oL) σ ((.list acc, .ref D) :: ps) { s with heap := h', toks := tk } := by
  have hKLn : ∀ {b o}, K.f b = some o → ¬ b = L := fun e q => by rw [q, hKL] at e; cases e
  have hKDn : ∀ {b o}, K.f b = some o → ¬ b = D := fun e q => by rw [q, hDK] at e; cases e
  have hx : ∀ {b o}, Γ.hX b = some o → ¬ b = L ∧ ¬ b = D := fun e => ⟨hKLn (kx.2 _ _ e), hKDn (kx.2 _ _ e)⟩
  have r₅ : Rel prog w Γ (((K.hold D (listO vs nD)).hold L oL).hold I oI) σ (acc.zip vs ++ (x, v) :: ps) s := r.kp (fun b => by
    dsimp only
    by_cases q : b = I
    · rw [if_pos q, q, if_neg hIL, if_neg hID, if_pos rfl]
    · rw [if_neg q, if_neg q]) (fun b hb => by simp only [List.mem_cons] at hb ⊢; rcases hb with q | q | q | q <;> simp [q])
  have r₆ := r₅.letgo (h' := h') ((if_neg hIL).trans ((if_neg hID).trans hKI)) hk (fun b hb => by
    rcases List.mem_cons.mp hb with q | q
    · exact ⟨_, if_pos q⟩
    · rcases List.mem_cons.mp q with q | q
      · exact ⟨_, (if_neg (q ▸ hDL)).trans (if_pos q)⟩
      · obtain ⟨o, e⟩ := kx.1 b q
        exact ⟨o, (if_neg (hKLn e)).trans ((if_neg (hKDn e)).trans e)⟩) (fun b o e => (if_neg (hx e).1).trans ((if_neg (hx e).2).trans (kx.2 b o e))) tk ht
  have r₇ : Rel prog w Γ ((K.hold L oL).hold D (listO vs nD)) σ (acc.zip vs ++ (x, v) :: ps) { s with heap := h', toks := tk } := r₆.kp (fun b => by
    dsimp only
    by_cases q : b = D
    · rw [if_pos q, q, if_neg hDL, if_pos rfl]
    · rw [if_neg q, if_neg q]) (fun b hb => by simp only [List.mem_cons] at hb ⊢; rcases hb with q | q | q <;> simp [q])
  refine (r₇.freezeD hvl ((if_neg hDL).trans hDK) (fun b hb => ?_) (fun b o e => (if_neg (hx e).1).trans (kx.2 b o e))).perm fun p hp => ?_
  · rcases List.mem_cons.mp hb with q | q
    · exact ⟨_, if_pos q⟩
    · obtain ⟨o, e⟩ := kx.1 b q
      exact ⟨o, (if_neg (hKLn e)).trans e⟩
  · rcases List.mem_cons.mp hp with q | q
    · rw [q]; exact .head _
    · exact .tail _ (.tail _ q)
/-- what a comprehension's loop keeps -/
inductive CompInv (prog : Program) (w : World) (Γ : Cx) (K : Kp) (σ : St) (ps : List (MV × Value)) (I D L : Addr) {x : MV} {items : List MV} (T : Itr prog w x items) (v : Value) (WP : List MV → List MV → List (Option MO) → Prop) : Nat → Shared → Prop
  | mk {s' : Shared} (i : Nat) (ys acc : List MV) (vs : List Value) (objs : List (Option MO)) (nD : Nat) (oI' oL' : Obj) (mL' : Str → Option Value) (hil : i ≤ items.length) (hys : items.drop i = ys) (hai : acc.length ≤ i) (hvl : vs.length = acc.length)
      (hD : T.D v i oI') (htu : Turned σ.objs objs) (hw : WP ys acc objs) (r : Rel prog w Γ (K.h3 I oI' D (listO vs nD) L oL') ⟨σ.loc, objs⟩ (acc.zip vs ++ (x, v) :: ps) s') (hns : s'.heap.Ns L mL') : CompInv prog w Γ K σ ps I D L T v WP (ys.length + 1) s'
theorem comp_step {elt : Expr} {tn : Str} {tp : Pos} {ifs : List Expr} {scope : Scope} {hB : Heap} {ℓ : Nat} {sc sc' : Scope} {gl cells globs : List (Str × MV)} {names : List Str} {cl : List (Str × Addr)}
    (hΓ : Γof sc Γ hB ℓ gl) (hre : relabel scope Γ.env = sc') (S : CompSc scope sc' names (cells.map (·.1))) (hglob : GlobOk prog w sc' hB globs)
    (hc : ∀ p ∈ cells, p ∈ σ.loc ∧ p.2.ok = true ∧ Closed p.2 ∧ Γ.env.kindOf p.1 = some .cell) (hcl : ∀ n c, (n, NameKind.free) ∈ scope.names → Γ.env.cells.lookup n = some c → cl.lookup n = some c)
    {x y : MV} {v u : Value} {items ys acc : List MV} {vs : List Value} {objs : List (Option MO)} (T : Itr prog w x items) (hz : items.length ≤ sizeLine) {Qc : List MV → List (Option MO) → Prop} {NX : Shared → Prop}
    {I D L : Addr} {oI oL : Obj} {mL : Str → Option Value} {i nD : Nat} (hID : I ≠ D) (hDL : D ≠ L) (hXD : Γ.hX D = none) (hXL : Γ.hX L = none) (hi : i < items.length) (hys : items.drop i = y :: ys) (hai : acc.length ≤ i) (hvl : vs.length = acc.length) (hD : T.D v (i + 1) oI) (htu : Turned σ.objs objs)
    (hw : WPcomp prog w (fun Γ' => Γof sc' Γ' hB ℓ (cells ++ globs)) (.Name tn tp) ifs elt names Qc (y :: ys) acc objs)
    (hN : ∀ s₅, CompInv prog w Γ K σ ps I D L T v (WPcomp prog w (fun Γ' => Γof sc' Γ' hB ℓ (cells ++ globs)) (.Name tn tp) ifs elt names Qc) (ys.length + 1) s₅ → NX s₅)
    {s' : Shared} (r : Rel prog w Γ (K.h3 I oI D (listO vs nD) L oL) ⟨σ.loc, objs⟩ ((y, u) :: (acc.zip vs ++ (x, v) :: ps)) s') (hns : s'.heap.Ns L mL) :
    wpAny (model prog w) Γ.A (assign (.Name tn tp) (compEnvC scope cl L Γ.env) u) (fun _ s₂ => wpAny (model prog w) Γ.A (ifsTree ifs (compEnvC scope cl L Γ.env)) (fun ok s₃ => if ok = true then wpAny (model prog w) Γ.A (eval elt (compEnvC scope cl L Γ.env)) (fun z s₄ =>
        wpAny (model prog w) Γ.A (call (.builtin "list.append") [.ref D, z]) (fun _ s₅ => NX s₅) (fun _ _ => False) s₄) (fun _ _ => False) s₃ else NX s₃) (fun _ _ => False) s₂) (fun _ _ => False) s' := by
  obtain ⟨Γ', K', hΓ', hA, hE, rin, back⟩ := Rel.within (L := L) (K := (K.hold I oI).hold D (listO vs nD)) hΓ hre S hglob (σ := ⟨σ.loc, objs⟩) hc hcl r hXL hns (y := y) (v := u) (.head _)
  rw [← hA, ← hE]
  refine hw Γ' hΓ' K' [] u _ (fun (_ : Unit) s₂ => _) rin fun σ₂ s₂ h₂ r₂ => h₂ K' [] s₂ _ r₂ fun ok σ₃ s₃ h₃ r₃ => ?_
  cases ok with
  | false =>
    obtain ⟨objs₁, t1, t2, t3⟩ := h₃.2 rfl
    obtain ⟨oL₃, mL₃, n3, r₆, _⟩ := back σ₃ [] s₃ objs₁ t2 t1 (fun p hp => nomatch hp) r₃
    rw [if_neg (by simp)]
    exact hN _ (.mk (i + 1) ys acc vs objs₁ nD oI oL₃ mL₃ hi (by rw [← List.tail_drop, hys]; rfl) (Nat.le_succ_of_le hai) hvl hD (htu.trans t1) t3 (r₆.perm fun p hp => .tail _ hp) n3)
  | true =>
    rw [if_pos rfl]
    refine h₃.1 rfl K' [] s₃ _ r₃ fun z uz σ₄ s₄ h₄ r₄ => ?_
    obtain ⟨hz1, objs₁, t1, t2, t3⟩ := h₄
    obtain ⟨oL₃, mL₃, n3, r₆, _⟩ := back σ₄ [(z, uz)] s₄ objs₁ t2 t1 (fun p hp => by simp at hp; rw [hp]; exact hz1) r₄
    have hDo : s₄.heap.get? D = some (listO vs nD) := by
      obtain ⟨_, _, _, _, C₆⟩ := r₆
      exact C₆.kept D _ ((if_neg hDL).trans (if_pos rfl))
    refine wpAny_list_append_plain (items := vs.toArray) ⟨nD, hDo⟩ (fun h₅ hpl hs₅ => ?_) (by rw [List.size_toArray, hvl]; omega)
    obtain ⟨n₅, hD₅⟩ := hpl
    rw [List.push_toArray] at hD₅
    have r₇ := r₆.renewD hDL hXD (fun b x hb e => hs₅.extBut b x hb e) hD₅ s₄.toks
    refine hN _ (.mk (i + 1) ys (acc ++ [z]) (vs ++ [uz]) objs₁ n₅ oI oL₃ mL₃ hi (by rw [← List.tail_drop, hys]; rfl) (by simp; exact hai) (by simp [hvl]) hD (htu.trans t1) t3 (r₇.perm fun p hp => ?_) (n3.at' fun o e => hs₅.extBut L o hDL.symm e))
    rw [List.zip_append hvl.symm] at hp
    simp only [List.mem_append, List.mem_cons, List.zip_cons_cons, List.zip_nil_right, List.not_mem_nil, or_false] at hp ⊢
    rcases hp with (h | h) | h | h
    · exact .inr (.inr (.inl h))
    · exact .inl h
    · exact .inr (.inr (.inr (.inl h)))
    · exact .inr (.inr (.inr (.inr h)))
/-- the loop of a comprehension -/
theorem comp_run {elt iter : Expr} {tn : Str} {tp : Pos} {ifs : List Expr} {scope : Scope} {pos : Pos} {hB : Heap} {ℓ : Nat} {sc sc' : Scope} {gl cells globs : List (Str × MV)} {names : List Str} {cl : List (Str × Addr)}
    (hΓ : Γof sc Γ hB ℓ gl) (hre : relabel scope Γ.env = sc') (S : CompSc scope sc' names (cells.map (·.1))) (hglob : GlobOk prog w sc' hB globs)
    (hc : ∀ p ∈ cells, p ∈ σ.loc ∧ p.2.ok = true ∧ Closed p.2 ∧ Γ.env.kindOf p.1 = some .cell) (hcl : ∀ n c, (n, NameKind.free) ∈ scope.names → Γ.env.cells.lookup n = some c → cl.lookup n = some c)
    {x : MV} {v : Value} {items : List MV} (T : Itr prog w x items) (hz : items.length ≤ sizeLine) {Qc : List MV → List (Option MO) → Prop}
    (hw : WPcomp prog w (fun Γ' => Γof sc' Γ' hB ℓ (cells ++ globs)) (.Name tn tp) ifs elt names Qc items [] σ.objs)
    {I D L : Addr} {oI oL : Obj} {mL : Str → Option Value} (hID : I ≠ D) (hIL : I ≠ L) (hDL : D ≠ L) (hKI : K.f I = none) (hDK' : K.f D = none) (hKLn : K.f L = none) (hXI : Γ.hX I = none) (hXD : Γ.hX D = none) (hXL : Γ.hX L = none)
    (kx : (∀ b ∈ K.x, ∃ o, K.f b = some o) ∧ (∀ b o, Γ.hX b = some o → K.f b = some o)) (hDI : T.D v 0 oI) {RR : Value → Addr → Result → Shared → Prop}
    (hRR : ∀ acc objs D L oL mL s', Qc acc objs → Rel prog w Γ (K.hold L oL) ⟨σ.loc, objs⟩ ((.list acc, .ref D) :: ps) s' → s'.heap.Ns L mL → K.f L = none → Γ.hX L = none → RR (.ref D) L (.ok .next) s')
    {s₄ : Shared} (r₄ : Rel prog w Γ (K.h3 I oI D (listO [] 0) L oL) σ ((x, v) :: ps) s₄) (hns : s₄.heap.Ns L mL) :
    codeAny (model prog w) Γ.A (.compLoop (.ListComp elt [⟨.Name tn tp, iter, ifs, 0⟩] scope pos) 0 (.ref I) (.ref D) (compEnvC scope cl L Γ.env)) (RR (.ref D) L) s₄ := by
  refine codeAny_compLoop_tests (CompInv prog w Γ K σ ps I D L T v (WPcomp prog w (fun Γ' => Γof sc' Γ' hB ℓ (cells ++ globs)) (.Name tn tp) ifs elt names Qc)) (fun n s' hI => ?_)
    (items.length + 1) (.mk 0 items [] [] σ.objs 0 oI oL _ (Nat.zero_le _) rfl (Nat.le_refl _) rfl hDI (.refl _) hw r₄ hns)
  obtain ⟨i, ys, acc, vs, objs, nD, oI', oL', mL', hil, hys, hai, hvl, hD', htu, hw', r', hns'⟩ := hI
  obtain ⟨F', m', cm', fps', C'⟩ := id r'
  have hFI : F' I = none := (C'.held I (.tail _ (.tail _ (.head _)))).1
  have hIo : s'.heap.get? I = some oI' := C'.kept I _ (by show (if I = L then _ else if I = D then _ else if I = I then _ else _) = _; rw [if_neg hIL, if_neg hID, if_pos rfl])
  obtain ⟨fp, P, St, W, hfp, hst1, hst2, hP⟩ := T.wk (A := Γ.A) (I := I) r'.handled (C'.ps (x, v) (List.mem_append_right _ (.head _))) hFI
  have hSt : St i s'.heap := hst1 i _ _ C'.frz hIo hD'
  cases ys with
  | nil =>
    have hi : i = items.length := Nat.le_antisymm hil (by simpa using hys)
    refine wpAny_with_toks (Nat.le_refl _) (W.done s' _ _ (hi ▸ hSt) fun h' tk hk ht => ?_)
    have hk' : ∀ b x, b ≠ I → s'.heap.get? b = some x → h'.get? b = some x := fun b x hb e => hk b x (by simpa using hb) e
    exact hRR acc objs D L oL' mL' _ hw' (r'.outI hID hIL hDL hKI hDK' hKLn hXD hXL kx hvl hk' tk ht) (hns'.at' fun o e => hk' L o hIL.symm e) hKLn hXL
  | cons y ys =>
    have hi : i < items.length := by
      rcases Nat.lt_or_ge i items.length with q | q
      · exact q
      · rw [List.drop_eq_nil_of_le q] at hys; cases hys
    refine wpAny_with_toks (Nat.le_refl _) (W.item i s' _ _ hi hSt fun u h' tk hPu hSt' hk ht => ?_)
    obtain ⟨y', hy, hyv⟩ := hP i u hi hPu
    have hyy : y' = y := by
      have := congrArg List.head? hys
      rw [List.head?_drop, hy] at this; simpa using this
    subst hyy
    obtain ⟨oI'', ho'', hD''⟩ := hst2 _ _ hSt'
    have r₅ : Rel prog w Γ (K.h3 I oI'' D (listO vs nD) L oL') ⟨σ.loc, objs⟩ ((y', u) :: (acc.zip vs ++ (x, v) :: ps)) { s' with heap := h', toks := tk } :=
      Rel.renewI ⟨F', m', cm', fps', C'.cons hyv⟩ hID hIL hXI (fun b x hb e => hk b x (by simpa using hb) e) ho'' tk ht
    have hns₅ : h'.Ns L mL' := hns'.at' fun o e => hk L o (by simpa using hIL.symm) e
    exact wpAny_mono (comp_step hΓ hre S hglob hc hcl T hz hID hDL hXD hXL hi hys hai hvl hD'' htu hw' (NX := fun s₅ => ∃ m, m < (y' :: ys).length + 1 ∧ CompInv prog w Γ K σ ps I D L T v (WPcomp prog w (fun Γ' => Γof sc' Γ' hB ℓ (cells ++ globs)) (.Name tn tp) ifs elt names Qc) m s₅) (fun s₅ h => ⟨_, Nat.lt_succ_self _, h⟩) r₅ hns₅) (fun _ _ q => wpAny_mono q (fun ok _ q => by
      cases ok with
      | false => exact q
      | true => exact wpAny_mono q (fun _ _ q => wpAny_mono q (fun _ _ q => q) fun _ _ q => q.elim) fun _ _ q => q.elim) fun _ _ q => q.elim) fun _ _ q => q.elim
theorem comp_end {elt iter : Expr} {tn : Str} {tp : Pos} {ifs : List Expr} {scope : Scope} {pos : Pos} {hB : Heap} {ℓ : Nat} {sc sc' : Scope} {gl cells globs : List (Str × MV)} {names : List Str} {cl : List (Str × Addr)}
    (hΓ : Γof sc Γ hB ℓ gl) (hre : relabel scope Γ.env = sc') (S : CompSc scope sc' names (cells.map (·.1))) (hglob : GlobOk prog w sc' hB globs)
    (hc : ∀ p ∈ cells, p ∈ σ.loc ∧ p.2.ok = true ∧ Closed p.2 ∧ Γ.env.kindOf p.1 = some .cell) (hcl : ∀ n c, (n, NameKind.free) ∈ scope.names → Γ.env.cells.lookup n = some c → cl.lookup n = some c)
    {x : MV} {v : Value} {items : List MV} (T : Itr prog w x items) (hz : items.length ≤ sizeLine) {Qc : List MV → List (Option MO) → Prop}
    (hw : WPcomp prog w (fun Γ' => Γof sc' Γ' hB ℓ (cells ++ globs)) (.Name tn tp) ifs elt names Qc items [] σ.objs)
    {I D L : Addr} {oI oL : Obj} {mL : Str → Option Value} (hID : I ≠ D) (hIL : I ≠ L) (hDL : D ≠ L) (hKI : K.f I = none) (hKD : (K.hold I oI).f D = none) (hKL : ((K.hold I oI).hold D (listO [] 0)).f L = none) (hXI : Γ.hX I = none) (hXD : Γ.hX D = none) (hXL : Γ.hX L = none)
    (kx : (∀ b ∈ K.x, ∃ o, K.f b = some o) ∧ (∀ b o, Γ.hX b = some o → K.f b = some o)) (hDI : T.D v 0 oI) {RR : Value → Addr → Result → Shared → Prop}
    (hRR : ∀ acc objs D L oL mL s', Qc acc objs → Rel prog w Γ (K.hold L oL) ⟨σ.loc, objs⟩ ((.list acc, .ref D) :: ps) s' → s'.heap.Ns L mL → K.f L = none → Γ.hX L = none → RR (.ref D) L (.ok .next) s')
    {s₄ : Shared} (r₄ : Rel prog w Γ (K.h3 I oI D (listO [] 0) L oL) σ ((x, v) :: ps) s₄) (hns : s₄.heap.Ns L mL) :
    codeAny (model prog w) Γ.A (.compStart (.ListComp elt [⟨.Name tn tp, iter, ifs, 0⟩] scope pos) 0 (.ref I) (.ref D) (compEnvC scope cl L Γ.env)) (RR (.ref D) L) s₄ := by
  have hDK' : K.f D = none := (if_neg hID.symm).symm.trans hKD
  have hKLn : K.f L = none := (if_neg hIL.symm).symm.trans ((if_neg hDL.symm).symm.trans hKL)
  have loop := comp_run (iter := iter) (pos := pos) hΓ hre S hglob hc hcl T hz hw hID hIL hDL hKI hDK' hKLn hXI hXD hXL kx hDI hRR r₄ hns
  refine codeAny_compStart_list loop ?_
  obtain ⟨F', m', cm', fps', C'⟩ := id r₄
  have hIo : s₄.heap.get? I = some oI := C'.kept I _ ((if_neg hIL).trans ((if_neg hID).trans (if_pos rfl)))
  obtain ⟨fp, P, St, W, hfp, hst1, hst2, hP⟩ := T.wk (A := Γ.A) (I := I) r₄.handled (C'.ps (x, v) (.head _)) (C'.held I (.tail _ (.tail _ (.head _)))).1
  exact W.self 0 _ _ _ (hst1 0 _ _ C'.frz hIo hDI) loop
theorem comp_core {elt iter : Expr} {tn : Str} {tp : Pos} {ifs : List Expr} {scope : Scope} {pos : Pos} {hB : Heap} {ℓ : Nat} {sc sc' : Scope} {gl cells globs : List (Str × MV)} {names : List Str} {cl : List (Str × Addr)}
    (hΓ : Γof sc Γ hB ℓ gl) (hre : relabel scope Γ.env = sc') (S : CompSc scope sc' names (cells.map (·.1))) (hglob : GlobOk prog w sc' hB globs)
    (hc : ∀ p ∈ cells, p ∈ σ.loc ∧ p.2.ok = true ∧ Closed p.2 ∧ Γ.env.kindOf p.1 = some .cell) (hcl : ∀ n c, (n, NameKind.free) ∈ scope.names → Γ.env.cells.lookup n = some c → cl.lookup n = some c)
    {x : MV} {v : Value} {items : List MV} (T : Itr prog w x items) (hz : items.length ≤ sizeLine) {Qc : List MV → List (Option MO) → Prop}
    (hw : WPcomp prog w (fun Γ' => Γof sc' Γ' hB ℓ (cells ++ globs)) (.Name tn tp) ifs elt names Qc items [] σ.objs)
    (r : Rel prog w Γ K σ ((x, v) :: ps) s) {RR : Value → Addr → Result → Shared → Prop}
    (hRR : ∀ acc objs D L oL mL s', Qc acc objs → Rel prog w Γ (K.hold L oL) ⟨σ.loc, objs⟩ ((.list acc, .ref D) :: ps) s' → s'.heap.Ns L mL → K.f L = none → Γ.hX L = none → RR (.ref D) L (.ok .next) s') :
    wpAny (model prog w) Γ.A (pyIter v) (fun it s₂ => wpAny (model prog w) Γ.A (newList []) (fun acc s₃ => wpAny (model prog w) Γ.A (newFunctionEnv scope Γ.env.globals cl [] Γ.env.qual none .none (some Γ.env)) (fun cenv s₄ =>
      codeAny (model prog w) Γ.A (.compStart (.ListComp elt [⟨.Name tn tp, iter, ifs, 0⟩] scope pos) 0 it acc { cenv with scope := relabel scope Γ.env }) (RR acc cenv.locals) s₄) (fun _ _ => False) s₃) (fun _ _ => False) s₂) (fun _ _ => False) s := by
  have hvr := r
  obtain ⟨F, m, cm, fps, C⟩ := hvr
  refine T.opn r.handled (C.ps _ (.head _)) C.frz fun oI hDI hoI => ?_
  obtain ⟨r₁, hKI, hXI⟩ := r.hold hoI
  refine wpAny_newObj_type (hd := by size_fits) ?_
  obtain ⟨r₂, hKD, hXD⟩ := r₁.hold (o := listO [] 0) rfl
  refine wpAny_newFunctionEnv S.nocell (by intro y hy; simp at hy) (fun h₁ hns₁ hsb₁ => ?_) S.kind
  obtain ⟨r₃, hKL, hXL⟩ := r₂.hold (o := { cls := .type "dict", data := .dict #[] }) rfl
  have hDs := Heap.size_push (h := s.heap) oI
  have hLs := Heap.size_push (h := s.heap.push oI) (listO [] 0)
  obtain ⟨oL, _, _, hoL, _⟩ := id hns₁
  have r₄ := r₃.renew hXL (fun b x hb e => hsb₁.extBut b x hb e) hoL (s.toks + ([] : List (Str × Value)).length)
  have hID : s.heap.objs.size ≠ (s.heap.push oI).objs.size := by omega
  have hIL : s.heap.objs.size ≠ ((s.heap.push oI).push (listO [] 0)).objs.size := by omega
  have hDL : (s.heap.push oI).objs.size ≠ ((s.heap.push oI).push (listO [] 0)).objs.size := by omega
  exact comp_end hΓ hre S hglob hc hcl T hz hw hID hIL hDL hKI hKD hKL hXI hXD hXL r.kx hDI hRR r₄ hns₁

theorem comp_cl {hB : Heap} {ℓ : Nat} {sc sc' : Scope} {gl : List (Str × MV)} {cs names : List Str} {scope : Scope} (hΓ : Γof sc Γ hB ℓ gl) (S : CompSc scope sc' names cs) (hck : ∀ x ∈ cs, x ∈ σ.loc.map (·.1) ∧ sc.names.lookup x = some .cell) (r : Rel prog w Γ K σ ps s) :
    ∃ cl, closureFor scope Γ.env = pure cl ∧ ∀ n c, (n, NameKind.free) ∈ scope.names → Γ.env.cells.lookup n = some c → cl.lookup n = some c := by
  refine closure_some fun n hn => ?_
  obtain ⟨F, m, cm, fps, C⟩ := r
  obtain ⟨h1, h2⟩ := hck n (S.free _ hn rfl)
  rcases (C.ok.kinds n (C.keys ▸ h1)).2 with hk | ⟨hk, c, hc⟩
  · have : sc.names.lookup n = some .local := by rw [← hΓ.1]; exact hk
    rw [h2] at this; cases this
  · exact ⟨c, C.ok.ocs n c hc⟩
section
variable {elt iter : Expr} {tn : Str} {tp : Pos} {ifs : List Expr} {scope : Scope} {pos : Pos} {hB : Heap} {ℓ : Nat} {sc : Scope} {gl : List (Str × MV)}
theorem wp_comp (hΓ : Γof sc Γ hB ℓ gl) (sc' : Scope) (names : List Str) (cells globs : List (Str × MV)) (hre : relabel scope Γ.env = sc') (S : CompSc scope sc' names (cells.map (·.1))) (hglob : GlobOk prog w sc' hB globs)
    (hck : ∀ x ∈ cells.map (·.1), x ∈ σ.loc.map (·.1) ∧ sc.names.lookup x = some .cell)
    (h : WPe prog w Γ σ iter fun xv σ₁ => ∃ items, ∃ _ : Itr prog w xv items, items.length ≤ sizeLine ∧ (∀ p ∈ cells, p ∈ σ₁.loc ∧ p.2.ok = true ∧ Closed p.2) ∧
      WPcomp prog w (fun Γ' => Γof sc' Γ' hB ℓ (cells ++ globs)) (.Name tn tp) ifs elt names (fun acc objs => Q (.list acc) ⟨σ₁.loc, objs⟩) items [] σ₁.objs)
    (hs : ∀ env x, foldedSetIterable iter env x = pure x) : WPe prog w Γ σ (.ListComp elt [⟨.Name tn tp, iter, ifs, 0⟩] scope pos) Q := by
  intro K ps s R r hR
  obtain ⟨cl, hclos, hcl⟩ := comp_cl hΓ S hck r
  rw [eval_ListComp]
  refine wpAny_comprehension_free (use := none) rfl (hs _) hclos S.kind S.loc ?_
  refine h K ps s _ r fun xv v σ₁ s₁ h₁ r₁ => ?_
  obtain ⟨items, T, hz, hc, hw⟩ := h₁
  refine comp_core hΓ hre S hglob (fun p hp => ⟨(hc p hp).1, (hc p hp).2.1, (hc p hp).2.2, by have := (hck p.1 (List.mem_map.mpr ⟨p, hp, rfl⟩)).2; rw [← hΓ.1] at this; exact this⟩) hcl T hz hw r₁ (RR := compPost (model prog w) Γ.A (fun _ _ => False) none R) fun acc objs D L oL mL s' hq r' hn hK hX => ?_
  refine ⟨mL, hn, fun h' hs' => hR _ _ _ _ hq ?_⟩
  have kx := r.kx
  exact r'.letgo hK (fun b x hb e => hs'.extBut b x hb e) kx.1 kx.2 s'.toks
end

variable {prog : Program} {w : World} {Γ Γ' : Cx} {K K' : Kp} {σ σ' : St} {ps qs : List (MV × Value)} {s s' : Shared} {F F' : Frz} {m cm : Str → Option Value} {fps : List (List Addr)}
variable {Q : MV → St → Prop} {QB : Bool → St → Prop} {QF : MF → St → Prop} {QU : St → Prop} {QL : List MV → St → Prop}

noncomputable def Plain (e : Expr) : Prop := ∀ o i, subscripted e false o i = operate [o, i] (getItem o i)
noncomputable def WIt (prog : Program) (w : World) (Γ : Cx) (σ : St) (x y : MV) (Q : MV → St → Prop) : Prop := ∀ value slice, Plain slice → WP2 prog w Γ σ x y (fun o i => subscriptTail value slice o i) Q
theorem wp_item {value slice : Expr} {pos : Pos} (hp : Plain slice) (h : WPe prog w Γ σ value fun x σ₁ => WPe prog w Γ σ₁ slice fun y σ₂ => WIt prog w Γ σ₂ x y Q) : WPe prog w Γ σ (.Subscript value slice pos) Q := by
  intro K ps s R r hR
  exact PyProof.Rows.Subscript_ (h K ps s _ r fun x v σ₁ s₁ h₁ r₁ => h₁ K _ s₁ _ r₁ fun y u σ₂ s₂ h₂ r₂ => h₂ value slice hp K ps v u s₂ R r₂ hR)
theorem Rel.zipGet {xs : List MV} {vs : List Value} {i : Nat} {z : MV} (r : Rel prog w Γ K σ (xs.zip vs ++ ps) s) (hl : vs.length = xs.length) (hz : xs[i]? = some z) : ∃ v, vs[i]? = some v ∧ Rel prog w Γ K σ ((z, v) :: ps) s := by
  obtain ⟨F, m, cm, fps, C⟩ := r
  obtain ⟨v, h1, h2⟩ := (C.zip hl rfl).get hz
  exact ⟨v, h1, F, m, cm, fps, (C.setps fun p hp => C.ps p (List.mem_append_right _ hp)).cons h2⟩
theorem it_list {xs : List MV} {k : Int} {z : MV} (h0 : 0 ≤ k) (hk : k < 9223372036854775808) (hz : xs[k.toNat]? = some z) (h : Q z σ) : WIt prog w Γ σ (.list xs) (.int k) Q := by
  intro value slice hp K ps v u s R r hR
  obtain ⟨t, rfl⟩ := r.int
  obtain ⟨a, vs, n, rfl, hg, hl, r'⟩ := r.drop.listAt
  obtain ⟨x, hx, r''⟩ := r'.zipGet hl hz
  exact item_listR (items := vs.toArray) ⟨_, hg, rfl, n, rfl⟩ h0 hk (by simpa using hx) (hR _ _ _ _ h r'') (hp _ _)
theorem it_str {x : Str} {k : Int} {c : Nat} (h0 : 0 ≤ k) (hk : k < 9223372036854775808) (hc : x.cps[k.toNat]? = some c) (h : Q (.str ⟨#[c]⟩) σ) : WIt prog w Γ σ (.str x) (.int k) Q := by
  intro value slice hp K ps v u s R r hR
  obtain ⟨t, rfl⟩ := r.int
  obtain ⟨t', rfl⟩ := r.drop.str
  have hlt : k.toNat < x.length := by
    rcases Nat.lt_or_ge k.toNat x.length with q | q
    · exact q
    · have : x.cps[k.toNat]? = none := Array.getElem?_eq_none q
      rw [this] at hc; cases hc
  refine subscriptTail_builtinR (typeIs_str s x t') F.slot_str_getitem.lookup (PyProof.Rows.getItem_str (c := c) (by simp only [Bool.or_eq_false_iff, decide_eq_false_iff_not]; omega) ?_ ⟨rfl, hR _ _ _ _ h ((r.drop.drop.toks _).flat (.str _ _))⟩) (hp _ _)
  unfold seqIndex?
  have : (decide (0 ≤ k) && decide (k < (x.length : Int))) = true := by simp only [Bool.and_eq_true, decide_eq_true_eq]; omega
  simp only [show ¬ k < 0 by omega, if_false, this, if_true]
  exact hc

noncomputable def WPo (prog : Program) (w : World) (Γ : Cx) (σ : St) (e : Option Expr) (Q : Option Int → St → Prop) : Prop :=
  ∀ (K : Kp) (ps : List (MV × Value)) (s : Shared) (R : Value → Shared → Prop), Rel prog w Γ K σ ps s →
    (∀ l : Option (Int × Tok), ∀ σ' s', Q (l.map (·.1)) σ' → Rel prog w Γ K σ' ps s' → R (partValue l) s') → wpAny (model prog w) Γ.A (evalPart e Γ.env) R (fun _ _ => False) s
theorem wo_none {QO : Option Int → St → Prop} (h : QO none σ) : WPo prog w Γ σ none QO := fun _ _ s _ r hR => evalPart_none_step (hR none σ s h r)
theorem wo_some {e : Expr} {QO : Option Int → St → Prop} (h : WPe prog w Γ σ e fun x σ₁ => ∃ i, x = .int i ∧ QO (some i) σ₁) : WPo prog w Γ σ (some e) QO := by
  intro K ps s R r hR
  refine evalPart_some_step (h K ps s _ r fun x v σ₁ s₁ h₁ r₁ => ?_)
  obtain ⟨i, rfl, h₁⟩ := h₁
  obtain ⟨t, rfl⟩ := r₁.int
  exact hR (some (i, t)) _ _ h₁ r₁.drop
theorem int_intro {i : Int} {P : Int → Prop} (h : P i) : ∃ i', MV.int i = .int i' ∧ P i' := ⟨i, rfl, h⟩
noncomputable def WSl (prog : Program) (w : World) (Γ : Cx) (σ : St) (x : MV) (lo hi : Option Int) (Q : MV → St → Prop) : Prop :=
  ∀ (K : Kp) (ps : List (MV × Value)) (v : Value) (l u : Option (Int × Tok)) (s : Shared) (R : Value → Shared → Prop), l.map (·.1) = lo → u.map (·.1) = hi → Rel prog w Γ K σ ((x, v) :: ps) s →
    (∀ mv v σ' s', Q mv σ' → Rel prog w Γ K σ' ((mv, v) :: ps) s' → R v s') →
    ItemOn (model prog w) Γ.A (fun _ _ => False) v (.ref s.heap.objs.size) R { s with heap := s.heap.push { cls := .type "slice", data := .fields #[partValue l, partValue u, .none] } }
theorem wp_slice {value : Expr} {lower upper : Option Expr} {p pos : Pos} (h : WPe prog w Γ σ value fun x σ₁ => WPo prog w Γ σ₁ lower fun lo σ₂ => WPo prog w Γ σ₂ upper fun hi σ₃ => WSl prog w Γ σ₃ x lo hi Q)
    (ht : ∀ o r, letTemporaryGo value o r = pure ()) : WPe prog w Γ σ (.Subscript value (.Slice lower upper none p) pos) Q := by
  intro K ps s R r hR
  refine Subscript_Slice (h K ps s _ r fun x v σ₁ s₁ h₁ r₁ => ?_) ht
  refine wpAny_Slice (h₁ K _ s₁ _ r₁ fun l σ₂ s₂ h₂ r₂ => h₂ K _ s₂ _ r₂ fun u σ₃ s₃ h₃ r₃ => ?_)
  rw [evalPart_none]
  exact wpAny_pure (h₃ K ps v l u s₃ R rfl rfl r₃ hR)
theorem Rel.push {o : Obj} (h : Rel prog w Γ K σ ps s) (t : Nat) (ht : s.toks ≤ t := by first | exact Nat.le_refl _ | exact Nat.le_succ _ | omega | (dsimp only; omega)) : Rel prog w Γ K σ ps { s with heap := s.heap.push o, toks := t } := h.grow (fun _ _ e => Heap.get?_push_of_some _ e) t ht
theorem sl_str {x : Str} {lo hi : Option Int} (hx : x.length ≤ sizeLine) (h : Q (.str (Txt.slice x lo hi)) σ) : WSl prog w Γ σ (.str x) lo hi Q := by
  intro K ps v l u s R hl hu r hR
  obtain ⟨t, rfl⟩ := r.str
  subst hl hu
  refine ⟨"str", _, F.slot_str_getitem.lookup, typeIs_str _ _ _, wpAny_with_toks (n := s.toks) (Nat.le_refl _) (wpAny_getItem_str_slice (l := l) (u := u) (st := none) ⟨_, Heap.get?_push_size _ rfl, rfl, rfl⟩ rfl ?_)⟩
  exact post_val_or_str ⟨Nat.le_trans (Txt.slice_le x _ _) hx, fun t' k ht => hR _ _ _ _ h ((r.drop.push k ht).flat (.str _ t'))⟩

inductive IsD : MV → PyData → Prop
  | none : IsD .none .none
  | bool (b : Bool) : IsD (.bool b) (.bool b)
  | int (i : Int) : IsD (.int i) (.int i)
  | str (x : Str) : IsD (.str x) (.str x)
  | list (xs : List MV) (ds : List PyData) (hl : xs.length = ds.length) (h : ∀ (i : Nat) (x : MV) (d : PyData), xs[i]? = some x → ds[i]? = some d → IsD x d) : IsD (.list xs) (.list ds)
  | tup (xs : List MV) (ds : List PyData) (hl : xs.length = ds.length) (h : ∀ (i : Nat) (x : MV) (d : PyData), xs[i]? = some x → ds[i]? = some d → IsD x d) : IsD (.tup xs) (.tuple ds)
theorem readsAll_of {h : Heap} : ∀ (vs : List Value) (ds : List PyData), vs.length = ds.length → (∀ (i : Nat) (v : Value) (d : PyData), vs[i]? = some v → ds[i]? = some d → ∃ as, Reads h v d as) → ∃ as, ReadsAll h vs ds as
  | [], [], _, _ => ⟨[], .nil⟩
  | [], _ :: _, h, _ => by simp at h
  | _ :: _, [], h, _ => by simp at h
  | v :: vs, d :: ds, hl, h => by
    obtain ⟨as, h1⟩ := h 0 v d rfl rfl
    obtain ⟨bs, h2⟩ := readsAll_of vs ds (by simpa using hl) fun i v d a b => h (i + 1) v d (by simpa using a) (by simpa using b)
    exact ⟨_, .cons h1 h2⟩
theorem IsD.reads {h : Heap} {ρ : Nat → Option Addr} (hF : ∀ b o, F b = some o → h.get? b = some o) {x : MV} {d : PyData} (hd : IsD x d) : ∀ {v : Value}, VR w F ρ x v → ∃ as, Reads h v d as := by
  induction hd with
  | none => intro v hv; cases hv; exact ⟨_, .none⟩
  | bool b => intro v hv; cases hv; exact ⟨_, .bool b⟩
  | int i => intro v hv; cases hv; exact ⟨_, .int i _⟩
  | str x => intro v hv; cases hv; exact ⟨_, .str x _⟩
  | list xs ds hl _ ih =>
    intro v hv
    cases hv with
    | list a _ vs n hFa hvl hh =>
      obtain ⟨as, hr⟩ := readsAll_of (h := h) vs ds (hvl.trans hl) fun i v d a b => by
        have hi : i < xs.length := by rw [← hvl]; exact (List.getElem?_eq_some_iff.mp a).1
        exact ih i xs[i] d (List.getElem?_eq_getElem hi) b (hh i _ _ (List.getElem?_eq_getElem hi) a)
      exact ⟨_, .list (hF _ _ hFa) rfl rfl (by simpa using hr)⟩
  | tup xs ds hl _ ih =>
    intro v hv
    cases hv with
    | tup a _ vs n hFa hvl hh =>
      obtain ⟨as, hr⟩ := readsAll_of (h := h) vs ds (hvl.trans hl) fun i v d a b => by
        have hi : i < xs.length := by rw [← hvl]; exact (List.getElem?_eq_some_iff.mp a).1
        exact ih i xs[i] d (List.getElem?_eq_getElem hi) b (hh i _ _ (List.getElem?_eq_getElem hi) a)
      exact ⟨_, .tuple (hF _ _ hFa) rfl rfl (by simpa using hr)⟩
section
variable {x y : MV} {dx dy : PyData}
theorem w2_eqD (hx : IsD x dx) (hy : IsD y dy) (cx : dx.canLay0 = true) (cy : dy.canLay0 = true) (hd : dx.depth ≤ 10) (h : Q (.bool (PyData.eqv dx dy)) σ) : WP2 prog w Γ σ x y (compareOp .Eq) Q := by
  intro K ps v u s R r hR
  have r' := r
  obtain ⟨F, m, cm, fps, C⟩ := r'
  obtain ⟨as, rx⟩ := hx.reads C.frz (C.ps (x, v) (.tail _ (.head _)))
  obtain ⟨bs, ry⟩ := hy.reads C.frz (C.ps (y, u) (.head _))
  have := C.ok.units
  exact SeqAt.compareEq_reads rx ry cx cy (by have := Nat.min_le_left dx.depth dy.depth; omega) (hR _ _ _ _ h (r.drop.drop.flat (.bool _)))
theorem w2_neD (hx : IsD x dx) (hy : IsD y dy) (cx : dx.canLay0 = true) (cy : dy.canLay0 = true) (hd : dx.depth ≤ 10) (h : Q (.bool (!PyData.eqv dx dy)) σ) : WP2 prog w Γ σ x y (compareOp .NotEq) Q := by
  intro K ps v u s R r hR
  have r' := r
  obtain ⟨F, m, cm, fps, C⟩ := r'
  obtain ⟨as, rx⟩ := hx.reads C.frz (C.ps (x, v) (.tail _ (.head _)))
  obtain ⟨bs, ry⟩ := hy.reads C.frz (C.ps (y, u) (.head _))
  have := C.ok.units
  exact SeqAt.compareNe_reads rx ry cx cy (by have := Nat.min_le_left dx.depth dy.depth; omega) (hR _ _ _ _ h (r.drop.drop.flat (.bool _)))
end
theorem w2_inStr {x y : Str} (h : Q (.bool !(Builtin.Str.occurrences x y 0 x.length 1).isEmpty) σ) : WP2 prog w Γ σ (.str y) (.str x) (compareOp .In) Q := by
  intro K ps v u s R r hR
  obtain ⟨t, rfl⟩ := r.str; obtain ⟨t', rfl⟩ := r.drop.str
  exact PyProof.Rows.in_str (hR _ _ _ _ h (r.drop.drop.flat (.bool _)))
theorem strsAre_of {ρ : Nat → Option Addr} : ∀ {ys : List Str} {vs : List Value}, VRs w F ρ (ys.map .str) vs → StrsAre vs ys
  | [], vs, h => by
    have : vs = [] := List.length_eq_zero_iff.mp h.1
    subst this; exact .nil
  | y :: ys, [], h => by have := h.1; simp at this
  | y :: ys, v :: vs, h => by
    have h1 : VR w F ρ (.str y) v := VRs.head h
    cases h1
    exact .cons y _ (strsAre_of (VRs.tail h))
theorem Rel.vrs {xs : List MV} {vs : List Value} (r : Rel prog w Γ K σ (xs.zip vs ++ ps) s) (hl : vs.length = xs.length) : ∃ F ρ, VRs w F ρ xs vs := by
  obtain ⟨F, m, cm, fps, C⟩ := r
  exact ⟨F, _, C.zip hl rfl⟩
theorem w2_inTup {x : Str} {ys : List Str} (h : Q (.bool (ys.any (· == x))) σ) : WP2 prog w Γ σ (.str x) (.tup (ys.map .str)) (compareOp .In) Q := by
  intro K ps v u s R r hR
  obtain ⟨t', rfl⟩ := r.drop.str
  obtain ⟨a, vs, n, rfl, hg, hl, r'⟩ := r.tupAt
  obtain ⟨F, ρ, hz⟩ := r'.vrs hl
  exact in_tuple_strs ⟨_, hg, rfl, n, rfl⟩ (by simpa using strsAre_of hz) (hR _ _ _ _ h (r.drop.drop.flat (.bool _)))

variable {prog : Program} {w : World} {Γ Γ' : Cx} {K K' : Kp} {σ σ' : St} {ps qs : List (MV × Value)} {s s' : Shared} {F F' : Frz} {m cm : Str → Option Value} {fps : List (List Addr)}
variable {Q : MV → St → Prop} {QB : Bool → St → Prop} {QF : MF → St → Prop} {QU : St → Prop} {QL : List MV → St → Prop}

/-- a pure def, called -/
theorem wc_pure {ℓ ℓ' : Nat} {hB : Heap} {f : Addr} {args : List MV} {P : MV → Prop} {sc : Scope} {gl : List (Str × MV)} {qual : Str} {st : Stmt} (hΓ : Γof sc Γ hB ℓ' gl) (hf : PureFn prog w ℓ hB (.ref f) args P) (hi : IsFn hB f qual st) (hℓ : ℓ ≤ ℓ') (hc : ∀ x ∈ args, Closed x) (h : ∀ mv, P mv → Q mv σ) : WPc prog w Γ σ (.ref f) args Q := by
  intro K ps vs s R hl r hR
  obtain ⟨F, m, cm, fps, C⟩ := r
  obtain ⟨g1, g2, g3, g4, g5, g6, g7⟩ := hΓ
  obtain ⟨oc, od, osl, pm, cdv, ct, doc, h1, h2⟩ := hi
  have hfs : s.heap.get? f = some _ := C.frz f _ (C.base f _ (g2 f _ h1))
  refine ⟨kept_fn hfs rfl, wpAny_call (hf Γ.A F s vs _ (by omega) (by omega) C.ok.handled (Nat.le_trans C.ok.lo1 C.tok) (fun b o e => C.base b o (g2 b o e)) C.frz ⟨hl, fun i x v hx hv => hc x (List.mem_of_getElem? hx) w F _ v ((C.zip hl rfl).2 i x v hx hv)⟩ fun mv v h' tk F' hP ht hk hS hF' hn hv => ?_)⟩
  exact hR mv v σ _ (h mv hP) ⟨F', m, cm, fps, ((C.setps (ps' := ps) fun p hp => C.ps p (List.mem_append_right _ hp)).grow hk hS hF' hn tk ht).cons (hv.mono (Sub.refl F') fun _ _ e => by cases e)⟩
theorem Rel.one {x : MV} {vs : List Value} (h : Rel prog w Γ K σ ([x].zip vs ++ ps) s) (hl : vs.length = 1) : ∃ v, vs = [v] ∧ Rel prog w Γ K σ ((x, v) :: ps) s := by
  match vs, hl with
  | [v], _ => exact ⟨v, rfl, h⟩
theorem Rel.two {x y : MV} {vs : List Value} (h : Rel prog w Γ K σ ([x, y].zip vs ++ ps) s) (hl : vs.length = 2) : ∃ v u, vs = [v, u] ∧ Rel prog w Γ K σ ((x, v) :: (y, u) :: ps) s := by
  match vs, hl with
  | [v, u], _ => exact ⟨v, u, rfl, h⟩
theorem Rel.three {x y z : MV} {vs : List Value} (h : Rel prog w Γ K σ ([x, y, z].zip vs ++ ps) s) (hl : vs.length = 3) : ∃ v u t, vs = [v, u, t] ∧ Rel prog w Γ K σ ((x, v) :: (y, u) :: (z, t) :: ps) s := by
  match vs, hl with
  | [v, u, t], _ => exact ⟨v, u, t, rfl, h⟩
theorem wc_lenS {x : Str} (hx : x.length ≤ sizeLine) (h : Q (.int x.length) σ) : WPc prog w Γ σ (.builtin "len") [.str x] Q := by
  intro K ps vs s R hl r hR
  obtain ⟨v, rfl, r⟩ := r.one hl
  obtain ⟨t, rfl⟩ := r.str
  have hx' : x.length ≤ 16777216 := hx
  exact ⟨kept_builtin, PyProof.Rows.len_str (by omega) (hR _ _ _ _ h ((r.drop.toks _).flat (.int _ _)))⟩
theorem wc_lenL {xs : List MV} (hx : xs.length ≤ sizeLine) (h : Q (.int xs.length) σ) : WPc prog w Γ σ (.builtin "len") [.list xs] Q := by
  intro K ps vs s R hl r hR
  obtain ⟨v, rfl, r⟩ := r.one hl
  obtain ⟨a, vs, n, rfl, hg, hl, r'⟩ := r.listAt
  have hx' : xs.length ≤ 16777216 := hx
  refine ⟨kept_builtin, call_len_list (items := vs.toArray) ⟨_, hg, rfl, n, rfl⟩ (by rw [List.size_toArray, hl]; omega) ?_⟩
  rw [List.size_toArray, hl]
  exact hR _ _ _ _ h ((r.drop.toks _).flat (.int _ _))
theorem wm_str {x : Str} {name : Str} {id : String} {QM : Value → List MV → St → Prop} (slot : Slot "str" name id) (hty : typeOf (.builtin id) = pure (.type "method_descriptor")) (h : QM (.builtin id) [.str x] σ) : WPm prog w Γ σ (.str x) name QM := by
  intro pl K ps v s R r hR
  obtain ⟨t, rfl⟩ := r.str
  have hq : R (.builtin id, [.str x t]) s := hR _ [.str x] [.str x t] _ _ h rfl r
  with_reducible exact GM.of (.str x t) (typeIs_str _ _ _) slot hty GM.noRef hq
theorem wc_count {x y : Str} (h : Q (.int (Builtin.Str.occurrences x y 0 x.length (x.length + 1)).length) σ) : WPc prog w Γ σ (.builtin "str.count") [.str x, .str y] Q := by
  intro K ps vs s R hl r hR
  obtain ⟨v, u, rfl, r⟩ := r.two hl
  obtain ⟨t, rfl⟩ := r.str; obtain ⟨t', rfl⟩ := r.drop.str
  exact ⟨kept_builtin, call_gives PySem.F.slot_str_count (typeIs_str s x t) PySem.F.entry_str_count (PySem.F.args_str_count_2 _ _) (gives_str_count x y t t') (hR _ _ _ _ h ((r.drop.drop.toks _).flat (.int _ _)))⟩
theorem Rel.muAt {k : Nat} {xs : List MV} {v : Value} (r : Rel prog w Γ K σ ((.mu k, v) :: ps) s) (hk : ObjAt σ k (.lst xs)) : ∃ a vs n, v = .ref a ∧ s.heap.get? a = some (listO vs n) ∧ vs.length = xs.length ∧
    ∀ (ps' : List (MV × Value)) (xs' : List MV) (vs' : List Value) (h' : Heap) (n' : Nat), Rel prog w Γ K σ (ps' ++ (.mu k, v) :: ps) s → vs'.length = xs'.length → (∀ p ∈ xs'.zip vs', p ∈ xs.zip vs ∨ p ∈ ps') → (∀ b, b ≠ a → h'.get? b = s.heap.get? b) → h'.get? a = some (listO vs' n') →
      Rel prog w Γ K { σ with objs := σ.objs.set k (some (.lst xs')) } ps { s with heap := h' } := by
  have key : ∀ ps₀, Rel prog w Γ K σ (ps₀ ++ (.mu k, v) :: ps) s → ∃ F m cm fps a vs n, Core prog w Γ K σ (ps₀ ++ (.mu k, v) :: ps) s F m cm fps ∧ v = .ref a ∧ fps[k]? = some [a] ∧ s.heap.get? a = some (listO vs n) ∧ VRs w F (rho fps) xs vs := fun ps₀ r => by
    obtain ⟨F, m, cm, fps, C⟩ := r
    obtain ⟨fp, hfp, ho⟩ := C.trk k _ hk
    cases ho with
    | lst a _ vs n _ hh hv =>
      have h2 : VR w F (rho fps) (.mu k) v := C.ps (.mu k, v) (List.mem_append_right _ (.head _))
      cases h2 with
      | mu _ b hb =>
        have : rho fps k = some a := by unfold rho; rw [hfp]; rfl
        rw [this] at hb; cases hb
        exact ⟨F, m, cm, fps, a, vs, n, C, rfl, hfp, hh, hv⟩
  obtain ⟨F, m, cm, fps, a, vs, n, C, rfl, hfp, hh, hv⟩ := key [] r
  refine ⟨a, vs, n, rfl, hh, hv.1, fun ps' xs' vs' h' n' r' hl hz hs ho => ?_⟩
  obtain ⟨F', m', cm', fps', a', vs₂, n₂, C', e, hfp', hh', hv'⟩ := key ps' r'
  cases e
  have hvs : vs₂ = vs := by
    rw [hh] at hh'
    injection hh' with e
    injection e with _ _ e _
    injection e with e _
    exact (congrArg Array.toList e).symm
  subst hvs
  refine ⟨F', m', cm', fps', ((C'.setps (ps' := ps) fun p hp => C'.ps p (List.mem_append_right _ (.tail _ hp))).setObj (o' := .lst xs') hk hfp' (fun b hb => hs b (by simpa using hb)) (fun b hb => by simp at hb; subst hb; exact ⟨_, ho⟩) (.lst a xs' vs' n' h' ho ⟨hl, fun i x u hx hu => ?_⟩) (fun _ _ => ⟨xs, rfl⟩) s.toks)⟩
  have hm : (x, u) ∈ xs'.zip vs' := List.mem_iff_getElem?.mpr ⟨i, List.getElem?_zip_eq_some.mpr ⟨hx, hu⟩⟩
  rcases hz _ hm with h | h
  · obtain ⟨j, hj⟩ := List.mem_iff_getElem?.mp h
    rw [List.getElem?_zip_eq_some] at hj
    exact hv'.2 j _ _ hj.1 hj.2
  · exact C'.ps (x, u) (List.mem_append_left _ h)
theorem wm_mu {k : Nat} {xs : List MV} {name : Str} {id : String} {QM : Value → List MV → St → Prop} (hk : ObjAt σ k (.lst xs)) (slot : Slot "list" name id) (hty : typeOf (.builtin id) = pure (.type "method_descriptor")) (h : QM (.builtin id) [.mu k] σ) : WPm prog w Γ σ (.mu k) name QM := by
  intro pl K ps v s R r hR
  obtain ⟨a, vs, n, rfl, hg, hl, _⟩ := r.muAt hk
  exact getMethod_list_of (items := vs.toArray) slot hty ⟨_, hg, rfl, n, rfl⟩ ⟨_, hg, rfl⟩ (hR _ [.mu k] [.ref a] _ _ h rfl r)
theorem wc_append {k : Nat} {xs : List MV} {x : MV} (hk : ObjAt σ k (.lst xs)) (hz : xs.length ≤ sizeLine) (h : Q .none { σ with objs := σ.objs.set k (some (.lst (xs ++ [x]))) }) : WPc prog w Γ σ (.builtin "list.append") [.mu k, x] Q := by
  intro K ps vs s R hl r hR
  obtain ⟨v, u, rfl, r⟩ := r.two hl
  have r₂ : Rel prog w Γ K σ ([(x, u)] ++ (.mu k, v) :: ps) s := r.perm fun p hp => by
    rcases List.mem_cons.mp hp with q | q
    · rw [q]; exact .tail _ (.head _)
    · rcases List.mem_cons.mp q with q | q
      · rw [q]; exact .head _
      · exact .tail _ (.tail _ q)
  have r₁ : Rel prog w Γ K σ ((.mu k, v) :: ps) s := r₂.drop
  obtain ⟨a, vs, n, rfl, hg, hvl, go⟩ := r₁.muAt hk
  refine ⟨kept_builtin, wpAny_list_append_plain (items := vs.toArray) ⟨n, hg⟩ (fun h' hp hs => ?_) (by rw [List.size_toArray, hvl]; exact hz)⟩
  obtain ⟨n', ho⟩ := hp
  rw [List.push_toArray] at ho
  refine hR .none .none _ _ h ((go [(x, u)] (xs ++ [x]) (vs ++ [u]) h' n' r₂ (by simp [hvl]) (fun p hp => ?_) (fun b hb => hs.2 b hb) ho).flat .none)
  rw [List.zip_append hvl.symm] at hp
  rcases List.mem_append.mp hp with q | q
  · exact .inl q
  · exact .inr q
theorem wc_extend {k : Nat} {xs ys : List MV} (hk : ObjAt σ k (.lst xs)) (hz : xs.length + ys.length ≤ sizeLine) (h : Q .none { σ with objs := σ.objs.set k (some (.lst (xs ++ ys))) }) : WPc prog w Γ σ (.builtin "list.extend") [.mu k, .list ys] Q := by
  intro K ps vs s R hl r hR
  obtain ⟨v, u, rfl, r⟩ := r.two hl
  have r₂ : Rel prog w Γ K σ ((.list ys, u) :: (.mu k, v) :: ps) s := r.perm fun p hp => by
    rcases List.mem_cons.mp hp with q | q
    · rw [q]; exact .tail _ (.head _)
    · rcases List.mem_cons.mp q with q | q
      · rw [q]; exact .head _
      · exact .tail _ (.tail _ q)
  obtain ⟨b, us, n₂, rfl, hgb, hul, r₃⟩ := r₂.listAt
  obtain ⟨a, vs, n, rfl, hg, hvl, go⟩ := r₂.drop.muAt hk
  have hz' : xs.length + ys.length ≤ 16777216 := hz
  have hs1 : vs.toArray.size = xs.length := by rw [List.size_toArray, hvl]
  have hs2 : us.toArray.size = ys.length := by rw [List.size_toArray, hul]
  refine ⟨kept_builtin, call_meets PySem.F.slot_list_extend ⟨_, hg, rfl⟩ PySem.F.entry_list_extend (PySem.F.args_list_extend_2 _ _) (AutoSeq1.list_extend_list_list_0 a vs.toArray n b us.toArray n₂ ?_ ?_ ?_) ⟨hg, hgb, ?_⟩⟩
  · rw [hs1, hs2]
    rw [show Builtin.List.listTooLong (xs.length + ys.length) = false from decide_eq_false (by show ¬ _ > 16777216; omega), Bool.and_false]
    exact Bool.false_ne_true
  · rw [hs1]; show _ ≤ 16777216; omega
  · rw [hs1, hs2]; show _ ≤ 16777216 + 1; omega
  · obtain ⟨n', e'⟩ : ∃ n', Obj.mapSeq (fun x => x ++ us.toArray) (listO vs n) = listO (vs ++ us) n' := ⟨_, by
      unfold Obj.mapSeq listO
      dsimp only
      rw [show vs.toArray ++ us.toArray = (vs ++ us).toArray by simp]⟩
    refine hR .none .none _ _ h ((go (ys.zip us) (xs ++ ys) (vs ++ us) _ n' r₃ (by simp [hvl, hul]) (fun p hp => ?_) (fun c hc => (Heap.SameBut.update ..).2 c hc) ?_).flat .none)
    · rw [List.zip_append hvl.symm] at hp
      exact List.mem_append.mp hp
    · rw [Heap.get?_update_self _ hg (by rw [e']; rfl), e']

variable {prog : Program} {w : World} {Γ Γ' : Cx} {K K' : Kp} {σ σ' : St} {ps qs : List (MV × Value)} {s s' : Shared} {F F' : Frz} {m cm : Str → Option Value} {fps : List (List Addr)}
variable {Q : MV → St → Prop} {QB : Bool → St → Prop} {QF : MF → St → Prop} {QU : St → Prop} {QL : List MV → St → Prop}

theorem strs_of {ρ : Nat → Option Addr} : ∀ {ys : List Str} {vs : List Value}, VRs w F ρ (ys.map .str) vs → ∃ l : List (Str × Tok), vs = strValues l ∧ l.map (·.1) = ys
  | [], vs, h => by
    have : vs = [] := List.length_eq_zero_iff.mp h.1
    subst this; exact ⟨[], rfl, rfl⟩
  | y :: ys, [], h => by have := h.1; simp at this
  | y :: ys, v :: vs, h => by
    have h1 : VR w F ρ (.str y) v := VRs.head h
    cases h1 with
    | str _ t =>
      obtain ⟨l, e1, e2⟩ := strs_of (VRs.tail h)
      exact ⟨(y, t) :: l, by rw [e1]; rfl, by simp [e2]⟩
/-- ''.join -/
noncomputable def joinLen (sep : Str) (ys : List Str) : Nat := ys.toArray.foldl (· + ·.length + sep.length) 0
theorem wc_join {sep : Str} {ys : List Str} (hz : joinLen sep ys ≤ sizeLine) (hz2 : (Builtin.Str.glued sep ys).length ≤ sizeLine) (h : Q (.str (Builtin.Str.glued sep ys)) σ) : WPc prog w Γ σ (.builtin "str.join") [.str sep, .list (ys.map .str)] Q := by
  intro K ps vs s R hl r hR
  obtain ⟨v, u, rfl, r⟩ := r.two hl
  obtain ⟨t, rfl⟩ := r.str
  obtain ⟨a, us, n, rfl, hg, hul, r'⟩ := r.drop.listAt
  obtain ⟨F, ρ, hv⟩ := r'.vrs hul
  obtain ⟨l, rfl, rfl⟩ := strs_of hv
  refine ⟨kept_builtin, call_meets PySem.F.slot_str_join (typeIs_str s sep t) PySem.F.entry_str_join (PySem.F.args_str_join_2 _ _) (meets_str_join_list sep t a l (decide_eq_false (Nat.not_lt.mpr hz))) ⟨⟨_, hg, rfl, n, rfl⟩, ?_⟩⟩
  have r0 := r'.perm (ps' := ps) fun p hp => List.mem_append_right _ hp
  match l with
  | [] => exact ⟨hz2, hR _ _ _ _ h ((r0.toks _).flat (.str _ _))⟩
  | [p] =>
    have e : Builtin.Str.glued sep [p.1] = p.1 := by simp [Builtin.Str.glued]
    simp only [List.map_cons, List.map_nil] at h
    rw [e] at h
    exact hR _ _ _ _ h (r0.flat (.str _ _))
  | p :: q :: l => exact ⟨hz2, hR _ _ _ _ h ((r0.toks _).flat (.str _ _))⟩
theorem w2_addL {xs ys : List MV} (hz : xs.length + ys.length ≤ sizeLine) (h : Q (.list (xs ++ ys)) σ) : WP2 prog w Γ σ (.list xs) (.list ys) (binaryOp .Add) Q := by
  intro K ps v u s R r hR
  obtain ⟨b, us, n2, rfl, hgb, hul, r'⟩ := r.listAt
  have r2 : Rel prog w Γ K σ ((.list xs, v) :: (ys.zip us ++ ps)) s := r'.perm fun p hp => by
    rcases List.mem_cons.mp hp with q | q
    · rw [q]; exact List.mem_append_right _ (.head _)
    · rcases List.mem_append.mp q with q | q
      · exact List.mem_append_left _ q
      · exact List.mem_append_right _ (.tail _ q)
  obtain ⟨a, vs, n, rfl, hg, hvl, r3⟩ := r2.listAt
  refine concat_meets ⟨_, hg, rfl⟩ ⟨_, hgb, rfl⟩ noFill_list_add seq_list_add PySem.F.slot_list_add PySem.F.entry_list_add (PySem.F.args_list_add_2 _ _) (list_addW a b vs.toArray us.toArray n n2 none none #[] #[] (by simpa [hvl, hul] using hz)) ⟨hg, hgb, ?_⟩
  rw [show vs.toArray ++ us.toArray = (vs ++ us).toArray by simp]
  refine hR _ _ _ _ h (Rel.mk_list (xs := xs ++ ys) (vs := vs ++ us) (by simp [hvl, hul]) (r3.perm fun p hp => ?_))
  rw [List.zip_append hvl.symm, List.append_assoc] at hp
  exact hp
theorem wc_range1 {n : Int} (h : Q (.rng 0 n) σ) : WPc prog w Γ σ (.type "range") [.int n] Q := by
  intro K ps vs s R hl r hR
  obtain ⟨v, rfl, r⟩ := r.one hl
  obtain ⟨t, rfl⟩ := r.int
  refine ⟨kept_type, call_range_1 (hR _ _ _ _ h ?_)⟩
  obtain ⟨F, m, cm, fps, C⟩ := r.drop
  refine ⟨_, m, cm, fps, ((C.alloc { cls := .type "range", data := .fields #[.int 0 s.toks, .int n t, .int 1 (s.toks + 1)] }).toks (s.toks + 1 + 1)).cons (.rng _ 0 n _ _ _ Frz.put_self)⟩
theorem wc_range2 {a b : Int} (h : Q (.rng a b) σ) : WPc prog w Γ σ (.type "range") [.int a, .int b] Q := by
  intro K ps vs s R hl r hR
  obtain ⟨v, u, rfl, r⟩ := r.two hl
  obtain ⟨t, rfl⟩ := r.int
  obtain ⟨t', rfl⟩ := r.drop.int
  refine ⟨kept_type, call_range_2 (hR _ _ _ _ h ?_)⟩
  obtain ⟨F, m, cm, fps, C⟩ := r.drop.drop
  refine ⟨_, m, cm, fps, ((C.alloc { cls := .type "range", data := .fields #[.int a t, .int b t', .int 1 s.toks] }).toks (s.toks + 1)).cons (.rng _ a b _ _ _ Frz.put_self)⟩
theorem rng_ok {a b : Int} (ha : -4611686018427387904 ≤ a) (ha' : a < 4611686018427387904) (hb : -4611686018427387904 ≤ b) (hb' : b < 4611686018427387904) : Builtin.Range.small a b 1 = true ∧ Builtin.Range.rangeSize a b 1 = (b - a).toNat := by
  refine ⟨small_one ha ha' hb hb', ?_⟩
  rw [rangeSize_one]; split <;> omega
theorem VR.intInv {ρ : Nat → Option Addr} {i : Int} {v : Value} (h : VR w F ρ (.int i) v) : ∃ t, v = .int i t := by cases h; exact ⟨_, rfl⟩
theorem pre_sum : ∀ (ns : List Int) (k : Nat), k ≤ ns.length → preSum (fun i => ns.getD i 0) k = (ns.take k).sum
  | ns, 0, _ => by simp [preSum]
  | ns, k + 1, h => by
    rw [preSum, pre_sum ns k (by omega), List.take_add_one, List.sum_append]
    have : k < ns.length := h
    simp [List.getD, List.getElem?_eq_getElem this]
theorem wc_sum {ns : List Int} (hn : ∀ k, k ≤ ns.length → -9223372036854775808 ≤ (ns.take k).sum ∧ (ns.take k).sum < 9223372036854775808) (hi : ∀ i ∈ ns, -9223372036854775808 ≤ i ∧ i < 9223372036854775808) (h : Q (.int ns.sum) σ) : WPc prog w Γ σ (.builtin "sum") [.list (ns.map .int)] Q := by
  intro K ps vs s R hl r hR
  obtain ⟨v, rfl, r⟩ := r.one hl
  refine ⟨kept_builtin, wpAny_with_toks (Nat.le_refl _) (call_sum_walk ?_)⟩
  have r' := r
  obtain ⟨F, m, cm, fps, C⟩ := r'
  have T := Itr.list prog w (ns.map MV.int)
  refine wpAny_mono (T.opn (A := Γ.A.in1) (R := fun it s₂ => ∃ o, T.D v 0 o ∧ o.isFreed = false ∧ it = .ref s.heap.objs.size ∧ s₂ = { s with heap := s.heap.push o }) r.handled (C.ps _ (.head _)) C.frz (fun o h1 h2 => ⟨o, h1, h2, rfl, rfl⟩)) (fun it s₂ hh => ?_) fun _ _ q => q.elim
  obtain ⟨o, hD, ho, rfl, rfl⟩ := hh
  have hFI : F s.heap.objs.size = none := C.noneF
  obtain ⟨fp, P, St, W, hfp, hst1, hst2, hP⟩ := T.wk (A := Γ.A.in1) (I := s.heap.objs.size) r.handled (C.ps _ (.head _)) hFI
  rw [List.length_map] at W hP
  refine ⟨s.heap.objs.size, fp, [s.heap.objs.size], ns.length, fun i u => i < ns.length ∧ P i u, St, fun i => ns.getD i 0, rfl, ?_, hst1 0 _ o (fun b x e => Heap.get?_push_of_some _ (C.frz b x e)) (Heap.get?_push_size _ ho) hD, fun b hb => ?_, fun i u hu => ?_, fun j hj => ?_, fun h' tk t' hk => fun ht => ?_⟩
  · exact { W with item := fun i s Q E hi st hQ => W.item i s Q E hi st fun v h' tk hp => hQ v h' tk ⟨hi, hp⟩ }
  · rw [Heap.size_push]
    rcases hfp b hb with q | ⟨x, q⟩
    · subst q; exact Nat.lt_succ_self _
    · exact Nat.lt_succ_of_lt (Heap.lt_size (C.frz b x q))
  · obtain ⟨y, hy, hv⟩ := hP i u hu.1 hu.2
    rw [List.getElem?_map] at hy
    rw [List.getElem?_eq_getElem hu.1] at hy
    cases hy
    obtain ⟨t, e⟩ := hv.intInv
    exact ⟨t, by rw [e]; simp [List.getD, List.getElem?_eq_getElem hu.1]⟩
  · have hj' : j < ns.length := hj
    refine ⟨?_, ?_⟩
    · show InLong (ns.getD j 0)
      have e : ns.getD j 0 = ns[j] := by simp [List.getD, List.getElem?_eq_getElem hj']
      rw [e]; exact hi _ (List.getElem_mem hj')
    · rw [pre_sum ns (j + 1) hj']; exact hn (j + 1) hj'
  · have e : preSum (fun i => ns.getD i 0) ns.length = ns.sum := by rw [pre_sum ns _ (Nat.le_refl _), List.take_length]
    rw [e]
    exact hR _ _ _ _ h ((r.drop.grow (h' := h') (fun b x q => hk b x (fun hb => by simp at hb; subst hb; have := Heap.lt_size q; exact Nat.lt_irrefl _ this) (Heap.get?_push_of_some _ q)) tk ht).flat (.int _ _))

variable {prog : Program} {w : World} {Γ Γ' : Cx} {K K' : Kp} {σ σ' : St} {ps qs : List (MV × Value)} {s s' : Shared} {F F' : Frz} {m cm : Str → Option Value} {fps : List (List Addr)}
variable {Q : MV → St → Prop} {QB : Bool → St → Prop} {QF : MF → St → Prop} {QU : St → Prop} {QL : List MV → St → Prop}

section
variable {κ : Type} [DecidableEq κ] {knd : KeyKind prog w κ}
theorem dict_entries {h : Heap} {a : Addr} {kvs : List (κ × Value)} (hd : h.DictOf knd a kvs) : ∃ ds n, h.get? a = some { cls := .type "dict", data := .dict ds n } ∧ ds.size = kvs.length ∧
    ∀ (i : Nat) (kv : κ × Value) (d : DictEntry), kvs[i]? = some kv → ds[i]? = some d → knd.is kv.1 d.key = true ∧ d.hash = knd.hash kv.1 ∧ d.val = kv.2 := by
  obtain ⟨⟨c, dd, dt, sl⟩, es, ep, ho, ⟨e1, e2, e3⟩, e4, hk, hp, hn⟩ := hd
  simp only at e1 e2 e3 e4
  subst e1 e2 e3 e4
  refine ⟨es, ep, ho, ?_, ?_⟩
  · have : ∀ {l : List DictEntry} {k : List (κ × Value)}, Pairs knd l k → l.length = k.length := fun h => by
      induction h with
      | nil => rfl
      | cons _ _ _ ih => simp [ih]
    simpa using this hp
  · have go : ∀ {l : List DictEntry} {k : List (κ × Value)}, Pairs knd l k → (∀ e ∈ l, ∃ k, knd.is k e.key = true ∧ e.hash = knd.hash k) → ∀ (i : Nat) (kv : κ × Value) (d : DictEntry), k[i]? = some kv → l[i]? = some d → knd.is kv.1 d.key = true ∧ d.hash = knd.hash kv.1 ∧ d.val = kv.2 := fun h => by
      induction h with
      | nil => intro _ i kv d h1; simp at h1
      | cons a b _ ih =>
        intro hk i kv d h1 h2
        cases i with
        | zero =>
          simp at h1 h2; subst h1 h2
          obtain ⟨k', c, e⟩ := hk _ (.head _)
          have := knd.inj _ _ _ c a
          subst this
          exact ⟨a, e, b⟩
        | succ i => exact ih (fun e he => hk e (.tail _ he)) i kv d (by simpa using h1) (by simpa using h2)
    intro i kv d h1 h2
    exact go hp (fun e he => hk e (by simpa using he)) i kv d h1 (by simpa using h2)
theorem merged_nodup : ∀ (kvs acc : List (κ × Value)), ((acc ++ kvs).map (·.1)).Nodup → merged acc kvs = acc ++ kvs
  | [], acc, _ => by simp [merged]
  | kv :: kvs, acc, h => by
    have hno : acc.any (fun p => p.1 = kv.1) = false := by
      rw [List.any_eq_false]
      intro p hp hpk
      have hpk : p.1 = kv.1 := by simpa using hpk
      rw [List.map_append] at h
      exact (List.nodup_append.mp h).2.2 p.1 (List.mem_map.mpr ⟨p, hp, rfl⟩) kv.1 (by simp) hpk
    show merged (stored acc kv.1 kv.2) kvs = _
    have e : stored acc kv.1 kv.2 = acc ++ [kv] := by unfold stored; rw [hno]; rfl
    rw [e, merged_nodup kvs (acc ++ [kv]) (by simpa using h)]
    simp
end
/-- the pairs of a display -/
noncomputable def WPdT (prog : Program) (w : World) (Γ : Cx) (σ : St) (keys : List (Option Expr)) (values : List Expr) (Q : List (MV × MV) → St → Nat → Prop) : Prop :=
  ∀ (pos : Pos) (K : Kp) (ps : List (MV × Value)) (s : Shared) (R : List (Value × Value) → Shared → Prop), Rel prog w Γ K σ ps s →
    (∀ xs vs σ' s', Q xs σ' s'.toks → vs.length = xs.length → Rel prog w Γ K σ' ((xs.map (·.1)).zip (vs.map (·.1)) ++ (xs.map (·.2)).zip (vs.map (·.2)) ++ ps) s' → R vs s') → wpAny (model prog w) Γ.A (evalPairs (pairTrees keys values Γ.env pos)) R (fun _ _ => False) s
noncomputable abbrev WPd (prog : Program) (w : World) (Γ : Cx) (σ : St) (keys : List (Option Expr)) (values : List Expr) (Q : List (MV × MV) → St → Prop) : Prop := WPdT prog w Γ σ keys values fun xs σ _ => Q xs σ
theorem wd_nil {QD : List (MV × MV) → St → Prop} (h : QD [] σ) : WPd prog w Γ σ [] [] QD := fun _ _ _ s _ r hR => pairTrees_nil_walk (hR [] [] σ s h rfl r)
theorem wd_cons {QD : List (MV × MV) → St → Prop} {k v : Expr} {ks : List (Option Expr)} {vs : List Expr} (h : WPe prog w Γ σ k fun x σ₁ => WPe prog w Γ σ₁ v fun y σ₂ => WPd prog w Γ σ₂ ks vs fun xs σ₃ => QD ((x, y) :: xs) σ₃) : WPd prog w Γ σ (some k :: ks) (v :: vs) QD := by
  intro pos K ps s R r hR
  refine pairTrees_cons_walk (h K ps s _ r fun x v σ₁ s₁ h₁ r₁ => h₁ K _ s₁ _ r₁ fun y u σ₂ s₂ h₂ r₂ => h₂ pos K _ s₂ _ r₂ fun xs vs σ₃ s₃ h₃ hl r₃ => ?_)
  refine hR ((x, y) :: xs) ((v, u) :: vs) σ₃ s₃ h₃ (by simp [hl]) (r₃.perm fun p hp => ?_)
  simp only [List.map_cons, List.zip_cons_cons, List.cons_append, List.mem_cons, List.mem_append] at hp ⊢
  rcases hp with h | (h | h | h) | h
  · exact .inr (.inr (.inl h))
  · exact .inl (.inl h)
  · exact .inr (.inl h)
  · exact .inl (.inr h)
  · exact .inr (.inr (.inr h))
theorem dictI_T {QT : MV → St → Nat → Prop} {mg mb : Str → Option Value} {hB : Heap} {ℓ : Nat} {sc : Scope} {gl : List (Str × MV)} {keys : List (Option Expr)} {values : List Expr} {pos : Pos} (hΓ : Γof sc Γ hB ℓ gl) (T : TopF hB mg mb) (hall : keys.all (·.isSome) = true) (hl : keys.length = values.length) (h0 : keys ≠ []) (hlen : keys.length ≤ 15)
    (h : WPdT prog w Γ σ keys values fun xs σ₁ tk => ∃ es : List (Int × MV), xs = es.map (fun e => (.int e.1, e.2)) ∧ (es.map (·.1)).Nodup ∧ QT (.dictI es) σ₁ tk)
    (r : Rel prog w Γ K σ ps s) {R : Value → Shared → Prop} (hR : ∀ mv v σ' s' tk, QT mv σ' tk → tk ≤ s'.toks → Rel prog w Γ K σ' ((mv, v) :: ps) s' → R v s') : wpAny (model prog w) Γ.A (eval (.Dict keys values pos) Γ.env) R (fun _ _ => False) s := by
  obtain ⟨r₁, hK, hX⟩ := r.hold (o := { cls := .type "dict", data := .dict #[] }) rfl
  have kx := r.kx
  have hm : (s.heap.objs.size == sysModules) = false := by
    obtain ⟨F, m, cm, fps, C⟩ := r
    obtain ⟨o, _, _, ho, _⟩ := T.g
    have : mainGlobals < s.heap.objs.size := Heap.lt_size (C.frz _ _ (C.base _ _ (hΓ.2.1 _ _ ho)))
    refine beq_eq_false_iff_ne.mpr fun e => ?_
    rw [e] at this
    exact absurd this (by decide)
  refine wpAny_Dict_walk (knd := intKind prog w) hall hl h0 hlen (h pos _ ps _ _ r₁ fun xs vs σ₁ s₁ h₁ hvl r₂ => ?_)
  obtain ⟨es, rfl, hnd, h₁⟩ := h₁
  have r₂' := r₂
  obtain ⟨F, m, cm, fps, C⟩ := r₂'
  -- the keys are ints
  have hz := (C.setps (ps' := ((es.map fun e => (MV.int e.1, e.2)).map (·.1)).zip (vs.map (·.1)) ++ ps) fun p hp => C.ps p (by
    rcases List.mem_append.mp hp with q | q
    · exact List.mem_append_left _ (List.mem_append_left _ q)
    · exact List.mem_append_right _ q)).zip (by simp [hvl]) rfl
  have hkeys : ∀ (i : Nat) (e : Int × MV) (v : Value × Value), es[i]? = some e → vs[i]? = some v → ∃ t, v.1 = .int e.1 t := fun i e v h1 h2 => by
    have := hz.2 i (.int e.1) v.1 (by simp [h1]) (by simp [h2])
    exact this.intInv
  let kvs : List (Int × Value) := (es.zip vs).map fun p => (p.1.1, p.2.2)
  have hlen' : es.length = vs.length := by simpa using hvl.symm
  have hcar : Carries (intKind prog w) vs kvs := by
    show Carries (intKind prog w) vs ((es.zip vs).map fun p => (p.1.1, p.2.2))
    clear hz h₁ r₂ C hnd hvl kvs
    induction es generalizing vs with
    | nil => have : vs = [] := List.length_eq_zero_iff.mp hlen'.symm
             subst this; trivial
    | cons e es ih =>
      cases vs with
      | nil => simp at hlen'
      | cons v vs =>
        obtain ⟨t, ht⟩ := hkeys 0 e v rfl rfl
        obtain ⟨k, u⟩ := v
        simp only at ht
        subst ht
        refine ⟨by simp [intKind, Value.isInt], rfl, ih vs (fun i e v a b => hkeys (i + 1) e v (by simpa using a) (by simpa using b)) (by simpa using hlen')⟩
  have hfst : kvs.map (·.1) = es.map (·.1) := by
    show ((es.zip vs).map fun p => (p.1.1, p.2.2)).map (·.1) = _
    rw [List.map_map]
    have : (((·.1) : Int × Value → Int) ∘ fun p : (Int × MV) × (Value × Value) => (p.1.1, p.2.2)) = (·.1) ∘ Prod.fst := rfl
    rw [this, ← List.map_map, List.map_fst_zip (by omega)]
  refine ⟨kvs, hcar, ?_, fun h' hd hs => ?_⟩
  · have := C.kept s.heap.objs.size _ (if_pos rfl)
    exact ⟨_, #[], 0, this, ⟨rfl, rfl, rfl⟩, rfl, fun e he => by simp at he, .nil, by simp⟩
  · rw [merged_nodup kvs [] (by simpa [hfst] using hnd), List.nil_append] at hd
    obtain ⟨ds, n, hg, hsz, hent⟩ := dict_entries hd
    have r₃ := r₂.renew hX (fun b x hb e => hs.extBut b x hb e) hg (s₁.toks + vs.length)
    have hkl : kvs.length = es.length := by simpa using congrArg List.length hfst
    refine hR (.dictI es) (.ref s.heap.objs.size) _ _ _ h₁ (Nat.le_add_right _ _) (Rel.freezeAny (qs := ((es.map fun e => (MV.int e.1, e.2)).map (·.2)).zip (vs.map (·.2))) (r₃.perm fun p hp => by
      rcases List.mem_append.mp hp with q | q
      · exact List.mem_append_left _ (List.mem_append_right _ q)
      · exact List.mem_append_right _ q) hK kx.1 kx.2 fun F' ρ hF hz => ?_)
    have hz' := zip_vrs (by simp [hvl]) hz
    have hget : ∀ (i : Nat) (e : Int × MV), es[i]? = some e → ∃ v, vs[i]? = some v ∧ kvs[i]? = some (e.1, v.2) := fun i e h1 => by
      have hi : i < vs.length := by rw [← hlen']; exact (List.getElem?_eq_some_iff.mp h1).1
      refine ⟨vs[i], List.getElem?_eq_getElem hi, ?_⟩
      show ((es.zip vs).map fun p => (p.1.1, p.2.2))[i]? = _
      rw [List.getElem?_map, show (es.zip vs)[i]? = some (e, vs[i]) from List.getElem?_zip_eq_some.mpr ⟨h1, List.getElem?_eq_getElem hi⟩]; rfl
    refine .dictI _ es ds n hF hm (by rw [hsz, hkl]) (fun i e d h1 h2 => ?_) fun i e d h1 h2 => ?_
    · obtain ⟨v, _, h3⟩ := hget i e h1
      obtain ⟨a, b, _⟩ := hent i _ d h3 h2
      exact ⟨Value.isInt_shape a, b⟩
    · obtain ⟨v, h4, h3⟩ := hget i e h1
      obtain ⟨_, _, c⟩ := hent i _ d h3 h2
      rw [c]
      exact hz'.2 i e.2 v.2 (by simp [h1]) (by simp [h4])
theorem wp_dictI {mg mb : Str → Option Value} {hB : Heap} {ℓ : Nat} {sc : Scope} {gl : List (Str × MV)} {keys : List (Option Expr)} {values : List Expr} {pos : Pos} (hΓ : Γof sc Γ hB ℓ gl) (T : TopF hB mg mb) (hall : keys.all (·.isSome) = true) (hl : keys.length = values.length) (h0 : keys ≠ []) (hlen : keys.length ≤ 15)
    (h : WPd prog w Γ σ keys values fun xs σ₁ => ∃ es : List (Int × MV), xs = es.map (fun e => (.int e.1, e.2)) ∧ (es.map (·.1)).Nodup ∧ Q (.dictI es) σ₁) : WPe prog w Γ σ (.Dict keys values pos) Q :=
  fun _ _ _ _ r hR => dictI_T (QT := fun x σ _ => Q x σ) hΓ T hall hl h0 hlen h r fun mv v σ' s' _ q _ => hR mv v σ' s' q

variable {prog : Program} {w : World} {Γ Γ' : Cx} {K K' : Kp} {σ σ' : St} {ps qs : List (MV × Value)} {s s' : Shared} {F F' : Frz} {m cm : Str → Option Value} {fps : List (List Addr)}
variable {Q : MV → St → Prop} {QB : Bool → St → Prop} {QF : MF → St → Prop} {QU : St → Prop} {QL : List MV → St → Prop}

noncomputable def mvAt {κ : Type} [DecidableEq κ] (es : List (κ × MV)) (k : κ) : Option MV := (es.find? fun e => decide (e.1 = k)).map (·.2)
section
variable {κ : Type} [DecidableEq κ] {knd : KeyKind prog w κ}
theorem find_go {ρ : Nat → Option Addr} : ∀ (es : List (κ × MV)) (ds : List DictEntry), ds.length = es.length → (∀ (i : Nat) (e : κ × MV) (d : DictEntry), es[i]? = some e → ds[i]? = some d → knd.is e.1 d.key = true ∧ VR w F ρ e.2 d.val) → ∀ k,
    (mvAt es k = none ∧ (ds.find? fun d => knd.is k d.key) = none) ∨ ∃ mv d, mvAt es k = some mv ∧ (ds.find? fun d => knd.is k d.key) = some d ∧ VR w F ρ mv d.val
  | [], [], _, _, k => .inl ⟨rfl, rfl⟩
  | [], _ :: _, h, _, _ => by simp at h
  | _ :: _, [], h, _, _ => by simp at h
  | e :: es, d :: ds, hl, h, k => by
    obtain ⟨h1, h2⟩ := h 0 e d rfl rfl
    by_cases q : e.1 = k
    · refine .inr ⟨e.2, d, ?_, ?_, h2⟩
      · simp [mvAt, q]
      · rw [List.find?_cons, ← q, h1]
    · have hf : knd.is k d.key = false := by rw [KeyKind.is_eq_decide h1]; simpa using fun e' => q e'.symm
      have e1 : mvAt (e :: es) k = mvAt es k := by simp [mvAt, q]
      rw [e1, List.find?_cons, hf]
      exact find_go es ds (by simpa using hl) (fun i e d a b => h (i + 1) e d (by simpa using a) (by simpa using b)) k
theorem map_of {ρ : Nat → Option Addr} {h : Heap} {a : Addr} {es : List (κ × MV)} {ds : Array DictEntry} {n : Nat} (hg : h.get? a = some { cls := .type "dict", data := .dict ds n }) (hl : ds.size = es.length)
    (hent : ∀ (i : Nat) (e : κ × MV) (d : DictEntry), es[i]? = some e → ds[i]? = some d → knd.is e.1 d.key = true ∧ d.hash = knd.hash e.1 ∧ VR w F ρ e.2 d.val) :
    h.MapOf knd a (fun k => findBy knd.is ds k) ∧ ∀ k, (mvAt es k = none ∧ findBy knd.is ds k = none) ∨ ∃ mv v, mvAt es k = some mv ∧ findBy knd.is ds k = some v ∧ VR w F ρ mv v := by
  refine ⟨⟨_, ds, n, hg, ⟨rfl, rfl, rfl⟩, rfl, fun e he => ?_, fun _ => rfl⟩, fun k => ?_⟩
  · obtain ⟨i, hi, rfl⟩ := Array.mem_iff_getElem.mp he
    have hi' : i < es.length := by rw [← hl]; exact hi
    obtain ⟨h1, h2, _⟩ := hent i es[i] ds[i] (List.getElem?_eq_getElem hi') (Array.getElem?_eq_getElem hi)
    exact ⟨_, h1, h2⟩
  · rcases find_go (F := F) (ρ := ρ) es ds.toList (by simpa using hl) (fun i e d a b => let ⟨h1, _, h3⟩ := hent i e d a (by simpa using b); ⟨h1, h3⟩) k with ⟨h1, h2⟩ | ⟨mv, d, h1, h2, h3⟩
    · refine .inl ⟨h1, ?_⟩
      unfold findBy
      rw [← Array.find?_toList, h2]; rfl
    · refine .inr ⟨mv, d.val, h1, ?_, h3⟩
      unfold findBy
      rw [← Array.find?_toList, h2]; rfl
end
theorem Rel.dictS {es : List (Str × MV)} {v : Value} (h : Rel prog w Γ K σ ((.dictS es, v) :: ps) s) : ∃ a f, v = .ref a ∧ (a == sysModules) = false ∧ s.heap.MapOf (strKind prog w) a f ∧ (∃ o, s.heap.get? a = some o ∧ o.dict = none) ∧
    ∀ k, (mvAt es k = none ∧ f k = none) ∨ ∃ mv u, mvAt es k = some mv ∧ f k = some u ∧ Rel prog w Γ K σ ((mv, u) :: ps) s := by
  obtain ⟨F, m, cm, fps, C⟩ := h
  have h2 : VR w F (rho fps) (.dictS es) v := C.ps (.dictS es, v) (.head _)
  cases h2 with
  | dictS a _ ds n hF hm hl hk hh =>
    obtain ⟨h1, h2⟩ := map_of (knd := strKind prog w) (F := F) (ρ := rho fps) (C.frz _ _ hF) hl fun i e d a b => by
      obtain ⟨⟨t, e1⟩, e2⟩ := hk i e d a b
      exact ⟨by rw [e1]; exact strKind_is prog w e.1 t, e2, hh i e d a b⟩
    refine ⟨a, _, rfl, hm, h1, ⟨_, C.frz _ _ hF, rfl⟩, fun k => (h2 k).imp id fun ⟨mv, u, g1, g2, g3⟩ => ⟨mv, u, g1, g2, F, m, cm, fps, C.drop.cons g3⟩⟩
theorem Rel.dictI {es : List (Int × MV)} {v : Value} (h : Rel prog w Γ K σ ((.dictI es, v) :: ps) s) : ∃ a f, v = .ref a ∧ (a == sysModules) = false ∧ s.heap.MapOf (intKind prog w) a f ∧ (∃ o, s.heap.get? a = some o ∧ o.dict = none) ∧
    ∀ k, (mvAt es k = none ∧ f k = none) ∨ ∃ mv u, mvAt es k = some mv ∧ f k = some u ∧ Rel prog w Γ K σ ((mv, u) :: ps) s := by
  obtain ⟨F, m, cm, fps, C⟩ := h
  have h2 : VR w F (rho fps) (.dictI es) v := C.ps (.dictI es, v) (.head _)
  cases h2 with
  | dictI a _ ds n hF hm hl hk hh =>
    obtain ⟨h1, h2⟩ := map_of (knd := intKind prog w) (F := F) (ρ := rho fps) (C.frz _ _ hF) hl fun i e d a b => by
      obtain ⟨⟨t, e1⟩, e2⟩ := hk i e d a b
      exact ⟨by rw [e1]; simp [intKind, Value.isInt], e2, hh i e d a b⟩
    refine ⟨a, _, rfl, hm, h1, ⟨_, C.frz _ _ hF, rfl⟩, fun k => (h2 k).imp id fun ⟨mv, u, g1, g2, g3⟩ => ⟨mv, u, g1, g2, F, m, cm, fps, C.drop.cons g3⟩⟩
section
variable {es : List (Str × MV)} {ei : List (Int × MV)} {x : Str} {k : Int}
theorem w2_ninS (h : Q (.bool (!(mvAt es x).isSome)) σ) : WP2 prog w Γ σ (.str x) (.dictS es) (compareOp .NotIn) Q := by
  intro K ps v u s R r hR
  obtain ⟨a, f, rfl, hm, hM, _, hf⟩ := r.dictS
  obtain ⟨t, rfl⟩ := r.drop.str
  have e : (f x).isSome = (mvAt es x).isSome := by rcases hf x with ⟨h1, h2⟩ | ⟨_, _, h1, h2, _⟩ <;> rw [h1, h2] <;> rfl
  exact wpAny_notIn_of (strKind_is prog w x t) hm hM (e ▸ hR _ _ _ _ h ((r.drop.drop.toks _).flat (.bool _)))
theorem wm_dictS {name : Str} {id : String} {QM : Value → List MV → St → Prop} (slot : Slot "dict" name id) (hty : typeOf (.builtin id) = pure (.type "method_descriptor")) (h : QM (.builtin id) [.dictS es] σ) : WPm prog w Γ σ (.dictS es) name QM := by
  intro pl K ps v s R r hR
  obtain ⟨a, f, rfl, hm, hM, hd, hf⟩ := r.dictS
  exact getMethod_builtin hM.typeIs PySem.F.plainAttrs_dict slot hty (fun b e => by cases e; exact hd) (hR _ [.dictS es] [.ref a] _ _ h rfl r)
theorem wm_dictI {name : Str} {id : String} {QM : Value → List MV → St → Prop} (slot : Slot "dict" name id) (hty : typeOf (.builtin id) = pure (.type "method_descriptor")) (h : QM (.builtin id) [.dictI ei] σ) : WPm prog w Γ σ (.dictI ei) name QM := by
  intro pl K ps v s R r hR
  obtain ⟨a, f, rfl, hm, hM, hd, hf⟩ := r.dictI
  exact getMethod_builtin hM.typeIs PySem.F.plainAttrs_dict slot hty (fun b e => by cases e; exact hd) (hR _ [.dictI ei] [.ref a] _ _ h rfl r)
theorem wc_getS (h : Q ((mvAt es x).getD .none) σ) : WPc prog w Γ σ (.builtin "dict.get") [.dictS es, .str x] Q := by
  intro K ps vs s R hl r hR
  obtain ⟨v, u, rfl, r⟩ := r.two hl
  obtain ⟨a, f, rfl, hm, hM, hd, hf⟩ := r.dictS
  obtain ⟨t, rfl⟩ := r.drop.str
  refine ⟨kept_builtin, call_meetsIn PySem.F.slot_dict_get hM.typeIs PySem.F.entry_dict_get (PySem.F.args_dict_get_2 _ _) (meets_dict_get (strKind prog w) a (strKind_is prog w x t) hm) ⟨f, hM, ?_⟩⟩
  rcases hf x with ⟨h1, h2⟩ | ⟨mv, u, h1, h2, r'⟩
  · rw [h1] at h; rw [h2]
    exact hR _ _ _ _ h ((r.drop.drop.toks _).flat .none)
  · rw [h1] at h; rw [h2]
    exact hR _ _ _ _ h ((r'.perm (ps' := (mv, u) :: ps) fun p hp => by
      rcases List.mem_cons.mp hp with q | q
      · rw [q]; exact .head _
      · exact .tail _ (.tail _ q)).toks _)
theorem wc_getSd {d : MV} (h : Q ((mvAt es x).getD d) σ) : WPc prog w Γ σ (.builtin "dict.get") [.dictS es, .str x, d] Q := by
  intro K ps vs s R hl r hR
  obtain ⟨v, u, dv, rfl, r⟩ := r.three hl
  obtain ⟨a, f, rfl, hm, hM, hd, hf⟩ := r.dictS
  obtain ⟨t, rfl⟩ := r.drop.str
  refine ⟨kept_builtin, call_meetsIn PySem.F.slot_dict_get hM.typeIs PySem.F.entry_dict_get (PySem.F.args_dict_get_3 _ _ _) (meets_dict_get_default (strKind prog w) a (strKind_is prog w x t) hm dv) ⟨f, hM, ?_⟩⟩
  rcases hf x with ⟨h1, h2⟩ | ⟨mv, u, h1, h2, r'⟩
  · rw [h1] at h; rw [h2]
    exact hR _ _ _ _ h (r.drop.drop.toks _)
  · rw [h1] at h; rw [h2]
    exact hR _ _ _ _ h ((r'.perm (ps' := (mv, u) :: ps) fun p hp => by
      rcases List.mem_cons.mp hp with q | q
      · rw [q]; exact .head _
      · exact .tail _ (.tail _ (.tail _ q))).toks _)
theorem wc_getId {d : MV} (h : Q ((mvAt ei k).getD d) σ) : WPc prog w Γ σ (.builtin "dict.get") [.dictI ei, .int k, d] Q := by
  intro K ps vs s R hl r hR
  obtain ⟨v, u, dv, rfl, r⟩ := r.three hl
  obtain ⟨a, f, rfl, hm, hM, hd, hf⟩ := r.dictI
  obtain ⟨t, rfl⟩ := r.drop.int
  have hk : (intKind prog w).is k (.int k t) = true := by simp [intKind, Value.isInt]
  refine ⟨kept_builtin, call_meetsIn PySem.F.slot_dict_get hM.typeIs PySem.F.entry_dict_get (PySem.F.args_dict_get_3 _ _ _) (meets_dict_get_default (intKind prog w) a hk hm dv) ⟨f, hM, ?_⟩⟩
  rcases hf k with ⟨h1, h2⟩ | ⟨mv, u, h1, h2, r'⟩
  · rw [h1] at h; rw [h2]
    exact hR _ _ _ _ h (r.drop.drop.toks _)
  · rw [h1] at h; rw [h2]
    exact hR _ _ _ _ h ((r'.perm (ps' := (mv, u) :: ps) fun p hp => by
      rcases List.mem_cons.mp hp with q | q
      · rw [q]; exact .head _
      · exact .tail _ (.tail _ (.tail _ q))).toks _)
end
variable {prog : Program} {w : World} {Γ : Cx} {σ : St} {Q : MV → St → Prop}
theorem wp_globE {x : Str} {p : Pos} {mv : MV} {gl : List (Str × MV)} (hg : Γ.glob = gl) (hk : Lk x mv gl) (h : Q mv σ) : WPe prog w Γ σ (.Name x p) Q := wp_glob (hg ▸ hk) h
theorem w2_eqO {x : MV} {o : Option Int} {k : Int} (e : x = (o.map MV.int).getD .none) (h : Q (.bool (o == some k)) σ) : WP2 prog w Γ σ x (.int k) (compareOp .Eq) Q := by
  subst e
  cases o with
  | none =>
    intro K ps v u s R r hR
    obtain ⟨t, rfl⟩ := r.int
    obtain rfl := r.drop.nil
    exact PySem.EqNone.eq_none_int (hR _ _ _ _ h (r.drop.drop.flat (.bool _)))
  | some i =>
    refine w2_eq ?_
    have : (some i == some k) = (i == k) := rfl
    rw [this] at h; exact h

/-- a test of two, told by its value -/
theorem wt_and2 {QB : Bool → St → Prop} {e₁ e₂ : Expr} {p : Pos} (A B : Bool) (h1 : WPt prog w Γ σ e₁ fun b σ₁ => b = A ∧ σ₁ = σ ∧ (A = true → WPt prog w Γ σ e₂ fun c σ₂ => c = B ∧ σ₂ = σ)) (h : QB (A && B) σ) : WPt prog w Γ σ (.BoolOp .And [e₁, e₂] p) QB := by
  refine wt_bool (wall_and_cons ?_)
  intro K ps s R r hR
  refine h1 K ps s R r fun b σ₁ s₁ h₁ r₁ => hR b σ₁ s₁ ?_ r₁
  obtain ⟨rfl, rfl, h2⟩ := h₁
  refine ⟨fun hb => wall_and_cons ?_, fun hb => by subst hb; exact h⟩
  subst hb
  intro K ps s R r hR
  refine h2 rfl K ps s R r fun c σ₂ s₂ h₂ r₂ => hR c σ₂ s₂ ?_ r₂
  obtain ⟨rfl, rfl⟩ := h₂
  exact ⟨fun hc => by subst hc; exact wall_and_nil h, fun hc => by subst hc; exact h⟩
theorem WPt.mono {QB QB' : Bool → St → Prop} {e : Expr} (h : WPt prog w Γ σ e QB) (hQ : ∀ b σ, QB b σ → QB' b σ) : WPt prog w Γ σ e QB' := fun K ps s R r hR => h K ps s R r fun b σ' s' q => hR b σ' s' (hQ _ _ q)

theorem turn_mono {P P' : St → Prop} {QF : MF → St → Prop} (h : ∀ σ, P σ → P' σ) : ∀ f σ, turn P QF f σ → turn P' QF f σ
  | .next, σ, q => h σ q
  | .cont, σ, q => h σ q
  | .brk, _, q => q
  | .ret _, _, q => q
/-- a while, by what holds at each turn -/
theorem wx_whileI {t : Expr} {b : List Stmt} {p : Pos} {QF : MF → St → Prop} (I : Nat → St → Prop) (n : Nat) (h : I n σ)
    (step : ∀ n σ, I n σ → WPt prog w Γ σ t fun c σ₁ => (c = true → WPs prog w Γ σ₁ b (turn (fun σ' => ∃ m, m < n ∧ I m σ') QF)) ∧ (c = false → QF .next σ₁)) : WPx prog w Γ σ (.While t b [] p) QF := by
  have key : ∀ N n σ, n ≤ N → I n σ → WPw prog w Γ t b QF (N + 1) σ := by
    intro N
    induction N with
    | zero =>
      intro n σ hn hI
      refine (step n σ hI).mono fun c σ₁ q => ⟨fun hc => (q.1 hc).mono (turn_mono fun σ' ⟨m, hm, _⟩ => by omega), q.2⟩
    | succ N ih =>
      intro n σ hn hI
      refine (step n σ hI).mono fun c σ₁ q => ⟨fun hc => (q.1 hc).mono (turn_mono fun σ' ⟨m, hm, hI'⟩ => ih m σ' (by omega) hI'), q.2⟩
  exact wx_while (n + 1) (key n n σ (Nat.le_refl _) h)

variable {prog : Program} {w : World} {Γ Γ' : Cx} {K K' : Kp} {σ σ' : St} {ps qs : List (MV × Value)} {s s' : Shared} {F F' : Frz} {m cm : Str → Option Value} {fps : List (List Addr)}
variable {Q : MV → St → Prop} {QB : Bool → St → Prop} {QF : MF → St → Prop} {QU : St → Prop} {QL : List MV → St → Prop}

noncomputable def occs (x y : Str) : List Nat := Builtin.Str.occurrences x y 0 x.length (x.length + 1)
noncomputable def repS (x y z : Str) : Str := if ((occs x y).isEmpty || (y.length == 0 && z.length == 0)) = true then x else Builtin.Str.glued z (Builtin.Str.partsBetween x (occs x y) y.length)
theorem call_replace {A : Around} {E : Value → Shared → Prop} {x y z : Str} {t u v : Tok} {R : Value → Shared → Prop} (hu : u ≠ 0) (hv : v ≠ 0) (huv : u ≠ v) (hyz : (y == z) = false) (hl : x.length + (occs x y).length * z.length ≤ sizeLine) (hz : (repS x y z).length ≤ sizeLine)
    (h : ∀ t' k, s.toks ≤ k → R (.str (repS x y z) t') { s with toks := k }) : wpAny (model prog w) A (call (.builtin "str.replace") [.str x t, .str y u, .str z v]) R E s := by
  refine wpAny_with_toks (n := s.toks) (Nat.le_refl _) (call_gives PySem.F.slot_str_replace (typeIs_str s x t) PySem.F.entry_str_replace (PySem.F.args_str_replace_3 _ _ _) (gives_str_replace x y z t u v fun _ => ⟨?_, ?_, hyz, decide_eq_false (Nat.not_lt.mpr hl)⟩) ?_)
  · simp [hu, hv]
  · simpa using huv
  · exact post_val_or_str ⟨hz, fun t' k hk => h t' k hk⟩
theorem wp_replace {o : Expr} {y z : Str} {ky kz : Nat} {py pz pa p : Pos} (hyz : (y == z) = false) (h : WPe prog w Γ σ o fun ov σ₁ => ∃ x, ov = .str x ∧ (x.length + (occs x y).length * z.length ≤ sizeLine ∧ (repS x y z).length ≤ sizeLine) ∧ Q (.str (repS x y z)) σ₁)
    (hc : ∀ env, eval (.Call (.Attribute o "replace" pa) [.Constant (.str y) ky py, .Constant (.str z) kz pz] [] p) env = (do
      let ov ← eval o env
      standAt pa.atName
      let (f, first) ← holding [ov] (getMethod ov "replace" (do return (← importBound o env).getD true))
      callWith p f first (backTo p (starEach [.Constant (.str y) ky py, .Constant (.str z) kz pz] env)) (backToKw p (keywordEach [] env)))) :
    WPe prog w Γ σ (.Call (.Attribute o "replace" pa) [.Constant (.str y) ky py, .Constant (.str z) kz pz] [] p) Q := by
  intro K ps s R r hR
  refine methodCall_KW (h K ps s _ r fun ov v σ₁ s₁ h₁ r₁ => ?_) (hc _)
  obtain ⟨x, rfl, ⟨hl, hz⟩, h₁⟩ := h₁
  obtain ⟨t, rfl⟩ := r₁.str
  have hlo : 1 ≤ s₁.toks := by
    obtain ⟨_, _, _, _, C⟩ := r₁
    exact Nat.le_trans C.ok.lo1 C.tok
  with_reducible refine GM.replace ?_
  refine callWith_of (P := Kept (.builtin "str.replace")) rfl (fun h k => k _) (evalArgs_list rfl ?_)
  refine wpAny_items_cons (wpAny_Constant_str (wpAny_items_cons (wpAny_Constant_str (wpAny_items_nil ?_)) rfl)) rfl
  refine ⟨kept_builtin, call_replace (show s₁.toks ≠ 0 from Nat.ne_of_gt hlo) (show s₁.toks + 1 ≠ 0 from Nat.succ_ne_zero _) (show s₁.toks ≠ s₁.toks + 1 from Nat.ne_of_lt (Nat.lt_succ_self _)) hyz hl hz fun t' k hk => ?_⟩
  exact hR _ _ _ _ h₁ ((r₁.drop.toks k (by have : s₁.toks + 1 + 1 ≤ k := hk; omega)).flat (.str _ t'))

/-- a try in which nothing is raised -/
theorem wx_try {body orelse : List Stmt} {h₀ : ExceptHandler} {hs : List ExceptHandler} {p : Pos} (h : WPs prog w Γ σ body (thenS prog w Γ orelse QF)) : WPx prog w Γ σ (.Try body (h₀ :: hs) orelse [] p) QF := by
  intro K ps s R r hR
  refine wpAny_Try_except (wpAny_mono (h K ps s (fun f s₁ => match f with | .next => wpAny (model prog w) Γ.A (execs orelse Γ.env) R (fun _ _ => False) s₁ | f => R f s₁) r fun mf f σ₁ s₁ h₁ r₁ => ?_) (fun _ _ q => q) fun _ _ q => q.elim)
  cases mf with
  | next => obtain ⟨rfl, r₁⟩ := r₁; exact h₁ K ps s₁ R r₁ hR
  | brk => have := r₁; obtain ⟨rfl, _⟩ := r₁; exact hR _ _ _ _ h₁ this
  | cont => have := r₁; obtain ⟨rfl, _⟩ := r₁; exact hR _ _ _ _ h₁ this
  | ret v => have := r₁; obtain ⟨v, rfl, _⟩ := r₁; exact hR _ _ _ _ h₁ this
noncomputable def hasS (x y : Str) : Bool := !(Builtin.Str.occurrences x y 0 x.length 1).isEmpty
noncomputable def escS (x : Str) : List (Str × Str) → Str
  | [] => x
  | (y, z) :: l => escS (if hasS x y then repS x y z else x) l
noncomputable def fitS (x y z : Str) : Prop := x.length + (occs x y).length * z.length ≤ sizeLine ∧ (repS x y z).length ≤ sizeLine
noncomputable def fitsS (x : Str) : List (Str × Str) → Prop
  | [] => True
  | (y, z) :: l => fitS x y z ∧ fitsS (if hasS x y then repS x y z else x) l
/-- one row of an escape -/
theorem wx_esc {x y z : Str} {k₁ k₂ k₃ : Nat} {q₁ q₂ q₃ q₄ q₅ q₆ q₇ q₈ q₉ q q' : Pos} (hyz : (y == z) = false) (hf : fitS x y z) (h : QF .next ⟨[("text", .str (if hasS x y then repS x y z else x))], []⟩)
    (hc : ∀ env, eval (.Call (.Attribute (.Name "text" q₁) "replace" q₂) [.Constant (.str y) k₁ q₃, .Constant (.str z) k₂ q₄] [] q₅) env = (do
      let ov ← eval (.Name "text" q₁) env
      standAt q₂.atName
      let (f, first) ← holding [ov] (getMethod ov "replace" (do return (← importBound (.Name "text" q₁) env).getD true))
      callWith q₅ f first (backTo q₅ (starEach [.Constant (.str y) k₁ q₃, .Constant (.str z) k₂ q₄] env)) (backToKw q₅ (keywordEach [] env))))
    (hs : ∀ env, swapsWith (.Call (.Attribute (.Name "text" q₁) "replace" q₂) [.Constant (.str y) k₁ q₃, .Constant (.str z) k₂ q₄] [] q₅) (some (.Name "text" q₆)) q₇.line env = pure false) :
    WPx prog w Γ ⟨[("text", .str x)], []⟩ (.If (.Compare (.Constant (.str y) k₃ q₈) [.In] [.Name "text" q₉] q') [.Assign [.Name "text" q₆] (.Call (.Attribute (.Name "text" q₁) "replace" q₂) [.Constant (.str y) k₁ q₃, .Constant (.str z) k₂ q₄] [] q₅) q₇] [] q) QF := by
  refine wx_if (wt_compare (wp_str (wp_name (Lk.here _) rfl (w2_inStr (wb_bool ⟨fun hb => ?_, fun hb => ?_⟩)))) rfl)
  · rw [show hasS x y = true from hb, if_pos rfl] at h
    exact ws_cons (wx_assign (wp_replace hyz (wp_name (Lk.here _) rfl ⟨x, rfl, hf, putq_here (then_next (ws_nil h))⟩) hc) hs)
  · rw [show hasS x y = false from hb, if_neg (by simp)] at h
    exact ws_nil h

/-- a comprehension that turns nothing -/
theorem comp_map {P : Cx → Prop} {tgt elt : Expr} {ifs : List Expr} {names : List Str} {Qc : List MV → List (Option MO) → Prop} (t : MV → Bool) (f : MV → MV) : ∀ (items acc : List MV) (objs : List (Option MO)), (∀ y ∈ items, t y = true → Closed (f y)) →
    (∀ y ∈ items, ∀ Γ', P Γ' → WU1 prog w Γ' ⟨names.map fun x => (x, .undef), mask objs⟩ y (assign tgt Γ'.env) fun σ' => WPi prog w Γ' σ' ifs fun b σ'' => b = t y ∧ σ''.objs = mask objs ∧ (t y = true → WPe prog w Γ' σ'' elt fun r σ₃ => r = f y ∧ σ₃.objs = mask objs)) →
    Qc (acc ++ (items.filter t).map f) objs → WPcomp prog w P tgt ifs elt names Qc items acc objs
  | [], acc, objs, _, _, hQ => by simpa [WPcomp] using hQ
  | y :: ys, acc, objs, hcl, h, hQ => by
    intro Γ' hP K ps v s R r hR
    refine h y (.head _) Γ' hP K ps v s R r fun σ' s' q r' => hR σ' s' ?_ r'
    intro K ps s R r hR
    refine q K ps s R r fun b σ'' s'' q' r'' => hR b σ'' s'' ?_ r''
    obtain ⟨rfl, ho, q'⟩ := q'
    refine ⟨fun hb => ?_, fun hb => ?_⟩
    · refine (q' hb).mono fun r σ₃ ⟨e, ho₃⟩ => ⟨?_, objs, .refl _, ho₃, ?_⟩
      · subst e; exact hcl y (.head _) hb
      · subst e
        refine comp_map t f ys _ objs (fun z hz => hcl z (.tail _ hz)) (fun z hz => h z (.tail _ hz)) ?_
        rw [List.filter_cons, if_pos hb, List.map_cons] at hQ
        simpa using hQ
    · refine ⟨objs, .refl _, ho, comp_map t f ys _ objs (fun z hz => hcl z (.tail _ hz)) (fun z hz => h z (.tail _ hz)) ?_⟩
      rw [List.filter_cons, if_neg (by simp [hb])] at hQ
      exact hQ

variable {prog : Program} {w : World} {Γ Γ' : Cx} {K K' : Kp} {σ σ' : St} {ps qs : List (MV × Value)} {s s' : Shared} {F F' : Frz} {m cm : Str → Option Value} {fps : List (List Addr)}
variable {Q : MV → St → Prop} {QB : Bool → St → Prop} {QF : MF → St → Prop} {QU : St → Prop} {QL : List MV → St → Prop}

theorem zip_rep {xs : List MV} {vs : List Value} (hl : vs.length = xs.length) : ∀ k : Nat, (List.replicate k xs).flatten.zip (List.replicate k vs).flatten = (List.replicate k (xs.zip vs)).flatten
  | 0 => rfl
  | k + 1 => by
    simp only [List.replicate_succ, List.flatten_cons]
    rw [List.zip_append hl.symm, zip_rep hl k]
theorem w2_mulL {xs : List MV} {k : Int} (h0 : -9223372036854775808 ≤ k) (h1 : k < 9223372036854775808) (hz : xs.length * k.toNat ≤ 16777216) (h : Q (.list (List.replicate k.toNat xs).flatten) σ) : WP2 prog w Γ σ (.list xs) (.int k) (binaryOp .Mult) Q := by
  intro K ps v u s R r hR
  obtain ⟨t, rfl⟩ := r.int
  obtain ⟨a, vs, n, rfl, hg, hvl, r'⟩ := r.drop.listAt
  have hsz : vs.toArray.size * k.toNat ≤ 16777216 := by rw [List.size_toArray, hvl]; exact hz
  refine wpAny_binaryOp_repeat_ref (T := "list") (U := "int") (by decide) ⟨_, hg, rfl⟩ (fun s' => typeIs_int s' k t) noFill_list_mul PySem.F.fills_int_mul PySem.F.slot_int_rmul repeat_list PySem.F.slot_int_index.lookup
    (call_meets PySem.F.slot_int_rmul (typeIs_int s k t) PySem.F.entry_int_rmul (PySem.F.args_int_rmul_2 _ _) (int___rmul___int_list k t a vs.toArray n) ⟨hg, rfl, ⟨_, hg, rfl⟩, call_meets PySem.F.slot_list_mul ⟨_, hg, rfl⟩ PySem.F.entry_list_mul (PySem.F.args_list_mul_2 _ _)
      (AutoListH.list___mul___list_int_3 a vs.toArray n k t (by simp [Builtin.List.listFitsIndex]; omega) (by omega) (by simp only [Builtin.List.listTooLong, decide_eq_true_eq]; show ¬ _ > 16777216; omega)) ⟨hg, ?_⟩⟩)
  rw [listMul_foldl_if]
  have hl : (List.replicate k.toNat vs).flatten.length = (List.replicate k.toNat xs).flatten.length := by simp [hvl]
  refine hR _ _ _ _ h (Rel.mk_list (xs := (List.replicate k.toNat xs).flatten) (vs := (List.replicate k.toNat vs).flatten) hl (r'.perm fun p hp => ?_))
  rcases List.mem_append.mp hp with q | q
  · rw [zip_rep hvl] at q
    obtain ⟨l, h1, h2⟩ := List.mem_flatten.mp q
    rw [List.eq_of_mem_replicate h1] at h2
    exact List.mem_append_left _ h2
  · exact List.mem_append_right _ q

noncomputable def maxI (ns : List Int) : Int := ns.getD (argBest (fun i j => decide (ns.getD j 0 < ns.getD i 0)) (ns.length - 1)) 0
theorem wc_max {ns : List Int} (hn : 0 < ns.length) (h : Q (.int (maxI ns)) σ) : WPc prog w Γ σ (.builtin "max") [.list (ns.map .int)] Q := by
  intro K ps vs s R hl r hR
  obtain ⟨v, rfl, r⟩ := r.one hl
  refine ⟨kept_builtin, wpAny_with_toks (Nat.le_refl _) (call_max_walk ?_)⟩
  have r' := r
  obtain ⟨F, m, cm, fps, C⟩ := r'
  have T := Itr.list prog w (ns.map MV.int)
  refine wpAny_mono (T.opn (A := Γ.A.in1) (R := fun it s₂ => ∃ o, T.D v 0 o ∧ o.isFreed = false ∧ it = .ref s.heap.objs.size ∧ s₂ = { s with heap := s.heap.push o }) r.handled (C.ps _ (.head _)) C.frz (fun o h1 h2 => ⟨o, h1, h2, rfl, rfl⟩)) (fun it s₂ hh => ?_) fun _ _ q => q.elim
  obtain ⟨o, hD, ho, rfl, rfl⟩ := hh
  have hFI : F s.heap.objs.size = none := C.noneF
  obtain ⟨fp, P, St, W, hfp, hst1, hst2, hP⟩ := T.wk (A := Γ.A.in1) (I := s.heap.objs.size) r.handled (C.ps _ (.head _)) hFI
  rw [List.length_map] at W hP
  have hint : ∀ i u, (i < ns.length ∧ P i u) → ∃ t, u = .int (ns.getD i 0) t := fun i u hu => by
    obtain ⟨y, hy, hv⟩ := hP i u hu.1 hu.2
    rw [List.getElem?_map, List.getElem?_eq_getElem hu.1] at hy
    cases hy
    obtain ⟨t, e⟩ := hv.intInv
    exact ⟨t, by rw [e]; simp [List.getD, List.getElem?_eq_getElem hu.1]⟩
  refine ⟨s.heap.objs.size, fp, [s.heap.objs.size], ns.length, fun i u => i < ns.length ∧ P i u, St, fun i j => decide (ns.getD j 0 < ns.getD i 0), rfl, ?_, hst1 0 _ o (fun b x e => Heap.get?_push_of_some _ (C.frz b x e)) (Heap.get?_push_size _ ho) hD, fun b hb => ?_, hn, fun i j vi vj s Q E hi hj hQ => ?_, fun u h' tk hu hk => fun ht => ?_⟩
  · exact { W with item := fun i s Q E hi st hQ => W.item i s Q E hi st fun v h' tk hp => hQ v h' tk ⟨hi, hp⟩ }
  · rw [Heap.size_push]
    rcases hfp b hb with q | ⟨x, q⟩
    · subst q; exact Nat.lt_succ_self _
    · exact Nat.lt_succ_of_lt (Heap.lt_size (C.frz b x q))
  · obtain ⟨t, rfl⟩ := hint i vi hi
    obtain ⟨t', rfl⟩ := hint j vj hj
    exact gt_int hQ
  · obtain ⟨t, rfl⟩ := hint _ u hu
    exact hR _ _ _ _ h ((r.drop.grow (h' := h') (fun b x q => hk b x (fun hb => by simp at hb; subst hb; have := Heap.lt_size q; exact Nat.lt_irrefl _ this) (Heap.get?_push_of_some _ q)) tk ht).flat (.int _ _))

noncomputable def splitS (x y : Str) : List Str := if (decide (x.length < y.length) || decide (Builtin.Str.strKind x < Builtin.Str.strKind y)) = true then [x] else if (occs x y).isEmpty = true then [x] else Builtin.Str.partsBetween x (occs x y) y.length
theorem strsFrom_vr {ρ : Nat → Option Addr} : ∀ (tk : Nat) (xs : List Str), VRs w F ρ (xs.map .str) (strsFrom tk xs)
  | _, [] => VRs.nil
  | tk, x :: xs => VRs.cons (.str x tk) (strsFrom_vr (tk + 1) xs)
theorem Rel.strsList {xs : List Str} {vs : List Value} (r : Rel prog w Γ K σ ps s) (hv : ∀ F ρ, VRs w F ρ (xs.map .str) vs) (t : Nat) (ht : s.toks ≤ t) : Rel prog w Γ K σ ((.list (xs.map .str), .ref s.heap.objs.size) :: ps) { s with heap := s.heap.push (listO vs 0), toks := t } := by
  obtain ⟨F, m, cm, fps, C⟩ := r
  have hz := hv (F.put s.heap.objs.size (listO vs 0)) (rho fps)
  exact ⟨_, m, cm, fps, ((C.alloc (listO vs 0)).toks t ht).cons (.list _ _ vs 0 Frz.put_self hz.1 hz.2)⟩
theorem wc_split {x y : Str} (hy : (y.length == 0) = false) (hx : x.length ≤ sizeLine) (hn : (splitS x y).length ≤ sizeLine) (h : Q (.list ((splitS x y).map .str)) σ) : WPc prog w Γ σ (.builtin "str.split") [.str x, .str y] Q := by
  intro K ps vs s R hl r hR
  obtain ⟨v, u, rfl, r⟩ := r.two hl
  obtain ⟨t, rfl⟩ := r.str; obtain ⟨t', rfl⟩ := r.drop.str
  refine ⟨kept_builtin, ?_⟩
  unfold splitS at h hn
  have one : ∀ F ρ, VRs w F ρ (([x] : List Str).map .str) [Value.str x t] := fun F ρ => VRs.cons (.str x t) VRs.nil
  cases h1 : (decide (x.length < y.length) || decide (Builtin.Str.strKind x < Builtin.Str.strKind y)) with
  | true =>
    rw [h1, if_pos rfl] at h
    exact call_meets PySem.F.slot_str_split (typeIs_str s x t) PySem.F.entry_str_split (PySem.F.args_str_split_2 _ _) (meets_str_split_cannot_occur x y t t' h1) (hR _ _ _ _ h (r.drop.drop.strsList one s.toks (Nat.le_refl _)))
  | false =>
    rw [h1, if_neg (by simp)] at h hn
    cases h2 : (occs x y).isEmpty with
    | true =>
      rw [h2, if_pos rfl] at h
      exact call_meets PySem.F.slot_str_split (typeIs_str s x t) PySem.F.entry_str_split (PySem.F.args_str_split_2 _ _) (meets_str_split_not_found x y t t' h1 hy h2) (hR _ _ _ _ h (r.drop.drop.strsList one s.toks (Nat.le_refl _)))
    | false =>
      rw [h2, if_neg (by simp)] at h hn
      exact call_meets PySem.F.slot_str_split (typeIs_str s x t) PySem.F.entry_str_split (PySem.F.args_str_split_2 _ _) (meets_str_split_sep x y t t' h1 hy h2 hx hn) (hR _ _ _ _ h (r.drop.drop.strsList (fun _ _ => strsFrom_vr _ _) _ (Nat.le_add_right _ _)))

variable {prog : Program} {w : World} {Γ Γ' : Cx} {K K' : Kp} {σ σ' : St} {ps qs : List (MV × Value)} {s s' : Shared} {F F' : Frz} {m cm : Str → Option Value} {fps : List (List Addr)}
variable {Q : MV → St → Prop} {QB : Bool → St → Prop} {QF : MF → St → Prop} {QU : St → Prop} {QL : List MV → St → Prop}

noncomputable abbrev Cx.at' (Γ : Cx) (n : Nat) : Cx := { Γ with lo := n }
theorem Rel.lo (r : Rel prog w Γ K σ ps s) {n : Nat} (h1 : 1 ≤ n) (hn : n ≤ s.toks) : Rel prog w (Γ.at' n) K σ ps s := by
  obtain ⟨F, m, cm, fps, C⟩ := r
  exact ⟨F, m, cm, fps, { C with ok := { C.ok with lo1 := h1 }, tok := hn }⟩
theorem Rel.unlo {n : Nat} (r : Rel prog w (Γ.at' n) K σ ps s) (h1 : 1 ≤ Γ.lo) (hn : Γ.lo ≤ n) : Rel prog w Γ K σ ps s := by
  obtain ⟨F, m, cm, fps, C⟩ := r
  exact ⟨F, m, cm, fps, { C with ok := { C.ok with lo1 := h1 }, tok := Nat.le_trans hn C.tok }⟩
theorem FR.unlo {n : Nat} {f : MF} {fl : Flow} (r : FR prog w (Γ.at' n) K σ ps f fl s) (h1 : 1 ≤ Γ.lo) (hn : Γ.lo ≤ n) : FR prog w Γ K σ ps f fl s := by
  cases f with
  | next => exact ⟨r.1, Rel.unlo r.2 h1 hn⟩
  | brk => exact ⟨r.1, Rel.unlo r.2 h1 hn⟩
  | cont => exact ⟨r.1, Rel.unlo r.2 h1 hn⟩
  | ret v => obtain ⟨u, h, r⟩ := r; exact ⟨u, h, r.unlo h1 hn⟩
theorem Rel.loLe (r : Rel prog w Γ K σ ps s) : 1 ≤ Γ.lo ∧ Γ.lo ≤ s.toks := let ⟨_, _, _, _, C⟩ := r; ⟨C.ok.lo1, C.tok⟩

/-- a str of a small table, kept with its token -/
theorem ws_bare {mg mb : Str → Option Value} {hB : Heap} {ℓ : Nat} {sc : Scope} {gl : List (Str × MV)} {k₁ k₂ i : Int} {b₁ b₂ b₃ x : Str} {e : Expr} {bs : List Stmt} {n₁ n₂ n₃ n₄ n₅ : Nat} {p₁ p₂ p₃ p₄ p₅ p₆ p₇ p₈ p₉ p₀ : Pos}
    (hΓ : Γof sc Γ hB ℓ gl) (T : TopF hB mg mb) (hk : k₁ ≠ k₂) {D : Expr} (hD : D = Expr.Dict [some (.Constant (.int k₁) n₁ p₂), some (.Constant (.int k₂) n₂ p₃)] [.Constant (.str b₁) n₃ p₄, .Constant (.str b₂) n₄ p₅] p₆) (he : ∀ n, WPe prog w (Γ.at' n) σ e fun y σ₁ => y = .int i ∧ σ₁ = σ)
    (h : ∀ t, 1 ≤ t → PutQ x (.obj (.str (if k₁ = i then b₁ else if k₂ = i then b₂ else b₃) t)) σ.loc fun l' => WPs prog w (Γ.at' (t + 1)) { σ with loc := l' } bs QF)
    (hc : ∀ env, eval (.Call (.Attribute D "get" p₇) [e, .Constant (.str b₃) n₅ p₈] [] p₉) env = (do
      let ov ← eval D env
      standAt p₇.atName
      let (f, first) ← holding [ov] (getMethod ov "get" (do return (← importBound D env).getD true))
      callWith p₉ f first (backTo p₉ (starEach [e, .Constant (.str b₃) n₅ p₈] env)) (backToKw p₉ (keywordEach [] env))))
    (hst : ∀ env, starEach [e, .Constant (.str b₃) n₅ p₈] env = (false, eval e env) :: starEach [.Constant (.str b₃) n₅ p₈] env)
    (hs : ∀ env, swapsWith (.Call (.Attribute D "get" p₇) [e, .Constant (.str b₃) n₅ p₈] [] p₉) (some (.Name x p₁)) p₀.line env = pure false) :
    WPs prog w Γ σ (.Assign [.Name x p₁] (.Call (.Attribute D "get" p₇) [e, .Constant (.str b₃) n₅ p₈] [] p₉) p₀ :: bs) QF := by
  intro K ps s R r hR
  have hΓlo := r.loLe.1
  have dct : ∀ R' : Value → Shared → Prop, (∀ t₁ t₂ v s₁ tk, Γ.lo ≤ t₁ → t₁ < tk → Γ.lo ≤ t₂ → t₂ < tk → tk ≤ s₁.toks → Rel prog w Γ K σ ((.dictI [(k₁, .obj (.str b₁ t₁)), (k₂, .obj (.str b₂ t₂))], v) :: ps) s₁ → R' v s₁) → wpAny (model prog w) Γ.A (eval D Γ.env) R' (fun _ _ => False) s := by
    subst hD
    intro R' hR'
    refine dictI_T (QT := fun mv σ' tk => ∃ t₁ t₂, mv = .dictI [(k₁, .obj (.str b₁ t₁)), (k₂, .obj (.str b₂ t₂))] ∧ σ' = σ ∧ Γ.lo ≤ t₁ ∧ t₁ < tk ∧ Γ.lo ≤ t₂ ∧ t₂ < tk) hΓ T (keys := [some (.Constant (.int k₁) n₁ p₂), some (.Constant (.int k₂) n₂ p₃)]) (values := [.Constant (.str b₁) n₃ p₄, .Constant (.str b₂) n₄ p₅]) rfl rfl (fun h => by cases h) (by show 2 ≤ 15; decide) ?_ r ?_
    · intro pos K ps s R r hR
      have lo := r.loLe.2
      refine pairTrees_cons_walk (wpAny_Constant_int (wpAny_Constant_str (pairTrees_cons_walk (wpAny_Constant_int (wpAny_Constant_str (pairTrees_nil_walk ?_))))))
      refine hR [(.int k₁, .obj (.str b₁ (s.toks + 1))), (.int k₂, .obj (.str b₂ (s.toks + 1 + 1 + 1)))] _ σ _ ⟨[(k₁, .obj (.str b₁ (s.toks + 1))), (k₂, .obj (.str b₂ (s.toks + 1 + 1 + 1)))], rfl, by simp [hk], _, _, rfl, rfl, by omega, by show _ < s.toks + 1 + 1 + 1 + 1; omega, by omega, Nat.lt_succ_self _⟩ rfl ?_
      have r' := r.toks (s.toks + 1 + 1 + 1 + 1)
      have r' := r'.flat (Flat1.obj (.str b₂ (s.toks + 1 + 1 + 1)))
      have r' := r'.flat (Flat1.obj (.str b₁ (s.toks + 1)))
      have r' := r'.flat (Flat1.int k₂ (s.toks + 1 + 1))
      have r' := r'.flat (Flat1.int k₁ s.toks)
      exact r'
    · rintro mv v σ' s₁ tk ⟨t₁, t₂, rfl, rfl, a1, a2, a3, a4⟩ htk r₁
      exact hR' t₁ t₂ v s₁ tk a1 a2 a3 a4 htk r₁
  refine wpAny_execs_cons ?_
  refine wpAny_Assign_Name ?_ (hs _)
  refine methodCall_KW ?_ (hc _)
  refine dct _ fun t₁ t₂ v s₁ tk a1 a2 a3 a4 htk r₁ => ?_
  · have r₁ := r₁.lo (n := tk) (by omega) htk
    refine wm_dictI (Γ := Γ.at' tk) (QM := fun f fx σ'' => f = .builtin "dict.get" ∧ fx = [.dictI [(k₁, .obj (.str b₁ t₁)), (k₂, .obj (.str b₂ t₂))]] ∧ σ'' = σ) PySem.F.slot_dict_get PySem.F.type_dict_get ⟨rfl, rfl, rfl⟩ _ K ps v s₁ _ r₁ fun f fx first σ₂ s₂ hq hl r₂ => ?_
    obtain ⟨rfl, rfl, rfl⟩ := hq
    refine callWith_of (P := Kept (.builtin "dict.get")) (by rw [hst]; rfl) (fun h k => k _) (evalArgs_list (by rw [hst]; rfl) ?_)
    refine wpAny_items_cons (he tk K _ s₂ _ r₂ fun y u σ₃ s₃ hq r₃ => wpAny_items_cons (wpAny_Constant_str (wpAny_items_nil ?_)) rfl) (hst _)
    obtain ⟨rfl, rfl⟩ := hq
    have lo₃ := r₃.loLe.2
    have lo₃ : tk ≤ s₃.toks := lo₃
    have r₄ := (r₃.unlo (Γ := Γ) hΓlo (show Γ.lo ≤ tk by omega)).toks (s₃.toks + 1)
    have r₄ := (r₄.flat (Flat1.obj (.str b₃ s₃.toks))).lo (n := s₃.toks + 1) (by omega) (Nat.le_refl _)
    obtain ⟨first, rfl⟩ : ∃ d, first = [d] := List.length_eq_one_iff.mp hl
    refine wc_getId (Γ := Γ.at' (s₃.toks + 1)) (Q := fun mv σ' => mv = ((mvAt [(k₁, .obj (.str b₁ t₁)), (k₂, .obj (.str b₂ t₂))] i).getD (.obj (.str b₃ s₃.toks))) ∧ σ' = σ₃) ⟨rfl, rfl⟩ K ps [first, u, .str b₃ s₃.toks] _ _ rfl (r₄.perm fun p hp => ?_) fun mv v σ₄ s₄ hq r₅ => ?_
    · simp only [List.zip_cons_cons, List.zip_nil_right, List.nil_append, List.cons_append, List.mem_cons] at hp ⊢
      rcases hp with q | q | q | q
      · exact .inr (.inr (.inl q))
      · exact .inr (.inl q)
      · exact .inl q
      · exact .inr (.inr (.inr q))
    obtain ⟨rfl, rfl⟩ := hq
    obtain ⟨t, ht0, ht1, ht2, hmv⟩ : ∃ t, Γ.lo ≤ t ∧ 1 ≤ t ∧ t < s₃.toks + 1 ∧ ((mvAt [(k₁, MV.obj (.str b₁ t₁)), (k₂, .obj (.str b₂ t₂))] i).getD (.obj (.str b₃ s₃.toks))) = .obj (.str (if k₁ = i then b₁ else if k₂ = i then b₂ else b₃) t) := by
      unfold mvAt
      by_cases q : k₁ = i
      · exact ⟨t₁, by omega, by omega, by omega, by simp [q]⟩
      · by_cases q' : k₂ = i
        · exact ⟨t₂, by omega, by omega, by omega, by simp [q, q']⟩
        · exact ⟨s₃.toks, by omega, by omega, by omega, by simp [q, q']⟩
    rw [hmv] at r₅
    have lo₅ : s₃.toks + 1 ≤ s₄.toks := r₅.loLe.2
    have r₆ := (r₅.unlo (Γ := Γ) hΓlo (by omega)).lo (n := t + 1) (by omega) (by omega)
    obtain ⟨l', hp, hb⟩ := h t ht1
    refine WP1.to_store (Γ := Γ.at' (t + 1)) (QU := fun σ' => WPs prog w (Γ.at' (t + 1)) σ' bs QF) hp hb K ps v s₄ _ r₆ fun σ₂ s₂ h₂ r₂ => ?_
    exact h₂ K ps s₂ _ r₂ fun mf f σ' s' hq hf => hR mf f σ' s' hq (hf.unlo hΓlo (by omega))

theorem Γof.at' {sc : Scope} {hB : Heap} {ℓ n : Nat} {gl : List (Str × MV)} (h : Γof sc Γ hB ℓ gl) : Γof sc (Γ.at' n) hB ℓ gl := h
theorem GlobAt.re {hB : Heap} {mg mb : Str → Option Value} {sc sc' : Scope} {p : Str × MV} (h : GlobAt w hB mg mb sc p) (hl : sc'.names.lookup p.1 = some .globalImplicit) : GlobAt w hB mg mb sc' p := ⟨h.1, hl, h.2.2⟩
theorem w2_ob {x : MV} {b : Str} {t : Tok} {tr : Value → Value → Sem Value} (h : WP2 prog w Γ σ x (.str b) tr Q) : WP2 prog w Γ σ x (.obj (.str b t)) tr Q := by
  intro K ps v u s R r hR
  obtain rfl := r.obj
  refine h K ps v _ s R ?_ hR
  exact r.drop.flat (.str b t)
theorem w2_ob1 {y : MV} {b : Str} {t : Tok} {tr : Value → Value → Sem Value} (h : WP2 prog w Γ σ (.str b) y tr Q) : WP2 prog w Γ σ (.obj (.str b t)) y tr Q := by
  intro K ps v u s R r hR
  obtain rfl := r.drop.obj
  refine h K ps _ u s R ?_ hR
  exact (r.flat (.str b t)).perm fun p hp => by
    simp only [List.mem_cons] at hp ⊢
    rcases hp with q | q | q
    · exact .inr (.inl q)
    · exact .inl q
    · exact .inr (.inr (.inr q))
theorem wp_replaceN {o : Expr} {nm x y z : Str} {t : Nat} {kz : Nat} {pn pz pa p : Pos} (hyz : (y == z) = false) (hn : Lk nm (.obj (.str y t)) σ.loc) (ht : 1 ≤ t) (htl : t + 1 ≤ Γ.lo) (hf : x.length + (occs x y).length * z.length ≤ sizeLine ∧ (repS x y z).length ≤ sizeLine)
    (ho : WPe prog w Γ σ o fun ov σ₁ => ov = .str x ∧ σ₁ = σ) (h : Q (.str (repS x y z)) σ)
    (hst : ∀ env, starEach [.Name nm pn, .Constant (.str z) kz pz] env = (false, eval (.Name nm pn) env) :: starEach [.Constant (.str z) kz pz] env)
    (hc : ∀ env, eval (.Call (.Attribute o "replace" pa) [.Name nm pn, .Constant (.str z) kz pz] [] p) env = (do
      let ov ← eval o env
      standAt pa.atName
      let (f, first) ← holding [ov] (getMethod ov "replace" (do return (← importBound o env).getD true))
      callWith p f first (backTo p (starEach [.Name nm pn, .Constant (.str z) kz pz] env)) (backToKw p (keywordEach [] env)))) :
    WPe prog w Γ σ (.Call (.Attribute o "replace" pa) [.Name nm pn, .Constant (.str z) kz pz] [] p) Q := by
  intro K ps s R r hR
  refine methodCall_KW (ho K ps s _ r fun ov v σ₁ s₁ h₁ r₁ => ?_) (hc _)
  obtain ⟨rfl, rfl⟩ := h₁
  obtain ⟨t₀, rfl⟩ := r₁.str
  with_reducible refine GM.replace ?_
  refine callWith_of (P := Kept (.builtin "str.replace")) (by rw [hst]; rfl) (fun h k => k _) (evalArgs_list (by rw [hst]; rfl) ?_)
  refine wpAny_items_cons (wp_name (Q := fun mv σ' => mv = .obj (.str y t) ∧ σ' = σ₁) hn rfl ⟨rfl, rfl⟩ K _ s₁ _ r₁ fun mv u σ₂ s₂ h₂ r₂ => wpAny_items_cons (wpAny_Constant_str (wpAny_items_nil ?_)) rfl) (hst _)
  obtain ⟨rfl, rfl⟩ := h₂
  obtain rfl := r₂.obj
  have lo : Γ.lo ≤ s₂.toks := r₂.loLe.2
  refine ⟨kept_builtin, call_replace (show t ≠ 0 by omega) (show s₂.toks ≠ 0 by omega) (show t ≠ s₂.toks by omega) hyz hf.1 hf.2 fun t' k hk => ?_⟩
  exact hR _ _ _ _ h ((r₂.drop.drop.toks k (by have : s₂.toks + 1 ≤ k := hk; omega)).flat (.str _ t'))
noncomputable abbrev dEnv (sc : Scope) : Env := { scope := sc, locals := 0, globals := 0, cells := [] }
theorem relabel_of {scope sc : Scope} {env : Env} (h : env.scope = sc) : relabel scope env = relabel scope (dEnv sc) := by
  subst h; rfl
section
variable {elt iter : Expr} {tn : Str} {tp : Pos} {ifs : List Expr} {scope : Scope} {pos : Pos} {hB : Heap} {ℓ : Nat} {sc : Scope} {gl : List (Str × MV)}
theorem wp_compD (hΓ : Γof sc Γ hB ℓ gl) (names : List Str) (cells globs : List (Str × MV)) (cs : List Str) (hcs : cells.map (·.1) = cs) (S : CompSc scope (relabel scope (dEnv sc)) names cs) (hglob : GlobOk prog w (relabel scope (dEnv sc)) hB globs)
    (hck : ∀ x ∈ cs, x ∈ σ.loc.map (·.1) ∧ sc.names.lookup x = some .cell)
    (h : WPe prog w Γ σ iter fun xv σ₁ => ∃ items, ∃ _ : Itr prog w xv items, items.length ≤ sizeLine ∧ (∀ p ∈ cells, p ∈ σ₁.loc ∧ p.2.ok = true ∧ Closed p.2) ∧
      WPcomp prog w (fun Γ' => Γof (relabel scope (dEnv sc)) Γ' hB ℓ (cells ++ globs)) (.Name tn tp) ifs elt names (fun acc objs => Q (.list acc) ⟨σ₁.loc, objs⟩) items [] σ₁.objs)
    (hs : ∀ env x, foldedSetIterable iter env x = pure x) : WPe prog w Γ σ (.ListComp elt [⟨.Name tn tp, iter, ifs, 0⟩] scope pos) Q :=
  wp_comp hΓ _ names cells globs (relabel_of hΓ.1) (hcs ▸ S) hglob (hcs ▸ hck) h hs
end

variable {prog : Program} {w : World} {Γ Γ' : Cx} {K K' : Kp} {σ σ' : St} {ps qs : List (MV × Value)} {s s' : Shared} {F F' : Frz} {m cm : Str → Option Value} {fps : List (List Addr)}
variable {Q : MV → St → Prop} {QB : Bool → St → Prop} {QF : MF → St → Prop} {QU : St → Prop} {QL : List MV → St → Prop}

/-- an object has turned, and new things stand -/
theorem Core.turnObj (C : Core prog w Γ K σ ps s F m cm fps) {k : Nat} {o o' : MO} {fp : List Addr} {h' : Heap} (hk : σ.objs[k]? = some (some o)) (hfp : fps[k]? = some fp) (hs : ∀ b x, b ∉ fp → s.heap.get? b = some x → h'.get? b = some x)
    (hl : ∀ a ∈ fp, ∃ x, h'.get? a = some x) (hS : Sub F F') (hF' : ∀ b x, F' b = some x → h'.get? b = some x) (hn : ∀ b x, F' b = some x → F b = some x ∨ s.heap.get? b = none)
    (hr : OR w F' (rho fps) o' fp h') (ho : ∀ xs, o' = .lst xs → ∃ ys, o = .lst ys) (t : Nat) (ht : s.toks ≤ t) :
    Core prog w Γ K { σ with objs := σ.objs.set k (some o') } ps { s with heap := h', toks := t } F' m cm fps := by
  have hh : Γ.hot (σ.objs.set k (some o')) fps = Γ.hot σ.objs fps := by unfold Cx.hot; rw [alive_set hk]
  have hm : ∀ a ∈ fp, a ∈ alive σ.objs fps := fun a ha => mem_alive hk hfp ha
  obtain ⟨n1, n2⟩ := List.nodup_cons.mp C.hot
  obtain ⟨n3, n4, n5⟩ := List.nodup_append.mp n2
  have hL : Γ.env.locals ∉ fp := fun h => n1 (List.mem_append_right _ (hm _ h))
  have hc : ∀ n c, Γ.oc.lookup n = some c → c ∉ fp := fun n c e h => n5 c (List.mem_map.mpr ⟨(n, c), mem_of_lookup e, rfl⟩) c (hm c h) rfl
  refine { C with
    base := fun b x e => hS _ _ (C.base b x e)
    frz := hF'
    frzH := fun b x e hb => ?_
    kept := fun b x e => hs b x (fun q => C.keptH b x e (C.mem_hot hk hfp q)) (C.kept b x e)
    keptH := fun b x e => by rw [hh]; exact C.keptH b x e
    held := fun b hb => ?_
    hot := by rw [hh]; exact C.hot
    live := fun b hb => ?_
    ns := ?_
    cell := fun n c e => ?_
    loc := fun y mv hy => (C.loc y mv hy).imp id fun ⟨v, h1, h2, h3⟩ => ⟨v, h1, h2, h3.mono hS fun _ _ e => e⟩
    len := by rw [List.length_set]; exact C.len
    tok := Nat.le_trans C.tok ht
    trk := fun j x hj => ?_
    ps := fun p hp => (C.ps p hp).mono hS fun _ _ e => e
    same := by obtain ⟨h, tk, e⟩ := C.same; exact ⟨h', t, by rw [e]⟩
    lim := fun b x e => ?_
    ext := fun b x e => ?_
    ownL := fun j xs fp' hj hj' => ?_ }
  · rw [hh] at hb
    rcases hn b x e with q | q
    · exact C.frzH b x q hb
    · obtain ⟨y, e'⟩ := C.live b hb; rw [q] at e'; cases e'
  · obtain ⟨g1, ⟨y, g2⟩, g3⟩ := C.held b hb
    refine ⟨?_, ⟨y, g2⟩, g3⟩
    cases e : F' b with
    | none => rfl
    | some z => rcases hn b z e with q | q
                · rw [g1] at q; cases q
                · rw [C.kept b y g2] at q; cases q
  · rw [hh] at hb
    by_cases q : b ∈ fp
    · exact hl b q
    · obtain ⟨x, e⟩ := C.live b hb; exact ⟨x, hs b x q e⟩
  · exact C.ns.at' fun x e => hs _ x hL e
  · obtain ⟨x, e', d⟩ := C.cell n c e
    exact ⟨x, hs _ _ (hc n c e) e', d⟩
  · rw [List.getElem?_set] at hj
    split at hj
    · rename_i e; subst e
      split at hj
      · cases hj; exact ⟨fp, hfp, hr⟩
      · cases hj
    · rename_i e
      obtain ⟨fp', h1, h2⟩ := C.trk j x hj
      refine ⟨fp', h1, (h2.mono hS fun _ _ e => e).stab fun a ha => ?_⟩
      obtain ⟨y, ey⟩ := C.live a (C.mem_hot hj h1 ha)
      rw [ey]; exact hs a y (alive_apart n4 hj h1 hk hfp (fun q => e q.symm) a ha) ey
  · rcases hn b x e with q | q
    · exact C.lim b x q
    · cases e' : Γ.sh.heap.get? b with
      | none => exact .inr rfl
      | some y => obtain ⟨y', e''⟩ := C.ext b y e'; rw [q] at e''; cases e''
  · obtain ⟨x', e'⟩ := C.ext b x e
    by_cases q : b ∈ fp
    · exact hl b q
    · exact ⟨x', hs b x' q e'⟩
  · rw [List.getElem?_set] at hj
    split at hj
    · rename_i e; subst e
      split at hj
      · cases hj
        obtain ⟨ys, e⟩ := ho xs rfl
        subst e
        exact C.ownL k ys fp' hk hj'
      · cases hj
    · exact C.ownL j xs fp' hj hj'

/-- a call that turns one object -/
noncomputable def ExtFn (prog : Program) (w : World) (ℓ : Nat) (hB : Heap) (f : Value) (args : List MV) (e : Ext) (P : MV → Ext → Prop) : Prop :=
  ∀ (A : Around) (F : Frz) (s : Shared) (vs : List Value) (fp : List Addr) (R : Result → Shared → Prop), A.depth + ℓ < recursionLimit → A.units + 20 * ℓ < cLine → A.handled = none → 1 ≤ s.toks →
    (∀ b o, hB.get? b = some o → F b = some o) → (∀ b o, F b = some o → s.heap.get? b = some o) → VRs w F noρ args vs →
    e.rel w F noρ fp s.heap → fp.Nodup → (∀ a ∈ fp, F a = none) → (∀ a ∈ fp, ∃ o, s.heap.get? a = some o) →
    (∀ mv v h' tk F' e', P mv e' → s.toks ≤ tk → (∀ b o, b ∉ fp → s.heap.get? b = some o → h'.get? b = some o) → (∀ a ∈ fp, ∃ o, h'.get? a = some o) → Sub F F' → (∀ b o, F' b = some o → h'.get? b = some o) →
      (∀ b o, F' b = some o → F b = some o ∨ s.heap.get? b = none) → VR w F' noρ mv v → e'.rel w F' noρ fp h' → R (.ok (.ret v)) { s with heap := h', toks := tk }) →
    codeAny (model prog w) A (.call f ⟨vs, []⟩) R s
/-- what is kept at such a call -/
noncomputable abbrev Kbut (fp : List Addr) (s : Shared) : Kp := ⟨fun b => if b ∈ fp then none else s.heap.get? b, []⟩
structure Fresh (Γ : Cx) (s : Shared) (F : Frz) (fp : List Addr) : Prop where
  sh : Γ.sh = s
  F0 : Γ.F0 = F
  fps0 : Γ.fps0 = [fp]
  lo : Γ.lo = s.toks
  oc : ∀ n c, Γ.oc.lookup n = some c → s.heap.get? c = none
theorem call_core {A : Around} {s : Shared} {vs : List Value} {fp : List Addr} {R : Result → Shared → Prop} {ℓ : Nat} {hB : Heap} {f : Addr} {oc : Value} {od : Option Addr} {fd : FuncData} {osl : Array (Option Value)} {body : List Stmt} {params rest : List Str} {args : List MV} {e : Ext} {glob : List (Str × MV)} {QF : Cx → MF → St → Prop}
    (ho : hB.get? f = some ⟨oc, od, .func fd, osl⟩) (hcode : hB.CodeRec fd.code fd.qualname) (hlim : hB.NoLimit) (hbody : fd.body = .stmts body) (hclo : fd.closure = [])
    (hgl : fd.globals = mainGlobals) (hbi : fd.builtins = builtinsNs)
    (hbind : ∀ vs, vs.length = params.length → bindArgs fd ⟨vs, []⟩ = pure (params.zip vs)) (hlen : args.length = params.length)
    (hsc : ScopeOk fd.scope (params ++ rest)) (hglob : GlobOk prog w fd.scope hB glob)
    (hco : fd.scope.isCoroutine = false) (hgen : fd.scope.isGenerator = false)
    (hd : A.depth + (ℓ + 1) < recursionLimit) (hu : A.units + 20 * (ℓ + 1) < cLine) (hh : A.handled = none) (htk : 1 ≤ s.toks)
    (hB1 : ∀ b o, hB.get? b = some o → F b = some o) (hF : ∀ b o, F b = some o → s.heap.get? b = some o) (hvs : VRs w F noρ args vs)
    (her : e.rel w F noρ fp s.heap) (hnd : fp.Nodup) (hFfp : ∀ a ∈ fp, F a = none) (hfpl : ∀ a ∈ fp, ∃ o, s.heap.get? a = some o)
    (h : ∀ Γ : Cx, Γof fd.scope Γ hB ℓ glob → Fresh Γ s F fp → Γ.env.code = fd.code → WPs prog w Γ ⟨params.zip args ++ rest.map (fun x => (x, .undef)), [some (.ext e)]⟩ body (QF Γ))
    (fin : ∀ Γ mf fl σ' s', Fresh Γ s F fp → QF Γ mf σ' → FR prog w Γ (Kbut fp s) σ' [] mf fl s' → R (.ok (.ret (match fl with | .ret v => v | _ => .none))) s') :
    codeAny (model prog w) A (.call (.ref f) ⟨vs, []⟩) R s := by
  have hcn : ((cellsFrom (s.heap.objs.size + 1) fd.scope.names []).map (·.1)).Nodup := by
    rw [cellsFrom_fst, List.map_nil, List.append_nil]
    unfold List.Nodup
    rw [List.pairwise_reverse]
    exact List.Pairwise.imp (fun h e => h e.symm) hsc.cells
  have hmem : ∀ x v, (x, v) ∈ params.zip vs → x ∈ params := fun x v hx => (List.of_mem_zip hx).1
  have hnp : params.Nodup := (List.nodup_append.mp hsc.nodup).1
  have hzf : (params.zip vs).map (·.1) = params := by
    rw [List.map_fst_zip]
    rw [hvs.1, hlen]; exact Nat.le_refl _
  refine call_cellsT (by omega) (hF _ _ (hB1 _ _ ho)) rfl (hlim.keeps fun b o e => hF _ _ (hB1 _ _ e)) (hcode.keeps fun b o e => hF _ _ (hB1 _ _ e)) hbody (hbind vs (hvs.1.trans hlen)) hclo (fun x hx => ?_) (fun s₁ htk₁ I => ?_) hco hgen hsc.kind
  · have hx' := (hsc.kinds x.1 (List.mem_append_left _ (hmem x.1 x.2 hx))).2
    refine hx'.imp id fun ⟨a, b⟩ => ⟨a, ?_⟩
    have : x.1 ∈ (cellsFrom (s.heap.objs.size + 1) fd.scope.names []).map (·.1) := by rw [cellsFrom_fst]; simpa using b
    obtain ⟨q, hq, e⟩ := List.mem_map.mp this
    obtain ⟨x1, c⟩ := q
    cases e
    rw [lookup_of_mem hq hcn]
    rfl
  · let Γ : Cx := { env := callEnvC fd s.heap.objs.size f, oc := (callEnvC fd s.heap.objs.size f).cells, A := A.deeper (callEnvC fd s.heap.objs.size f), hB := fun b => hB.get? b, hX := fun _ => none, glob := glob, names := params ++ rest, sh := s, F0 := F, fps0 := [fp], lo := s.toks }
    have hΓ : Γof fd.scope Γ hB ℓ glob := ⟨rfl, fun _ _ e => e, rfl, by show A.depth + 1 + ℓ < recursionLimit; omega, by show A.units + 3 + 20 * ℓ < cLine; omega, hgl, hbi⟩
    have hL : ∀ b, s.heap.objs.size ≤ b → s.heap.get? b = none := fun b hb => by
      cases q : s.heap.get? b with
      | none => rfl
      | some o => exact absurd (Heap.lt_size q) (Nat.not_lt.mpr hb)
    have hap := I.apart
    have habove := I.above
    have hcl : (callEnvC fd s.heap.objs.size f).locals = s.heap.objs.size := rfl
    have hhot : Γ.hot [some (.ext e)] [fp] = s.heap.objs.size :: ((cellsFrom (s.heap.objs.size + 1) fd.scope.names []).map (·.2) ++ fp) := by unfold Cx.hot; show _ :: (_ ++ (fp ++ [])) = _; rw [List.append_nil]; rfl
    have hcge : ∀ b ∈ (cellsFrom (s.heap.objs.size + 1) fd.scope.names []).map (·.2), s.heap.objs.size < b := fun b hb => by
      obtain ⟨q, hq, e⟩ := List.mem_map.mp hb
      have := habove q.1 q.2 hq
      rw [hcl] at this
      subst e; exact this
    have hne : ∀ b o, s.heap.get? b = some o → b ∉ fp → b ∉ Γ.hot [some (.ext e)] [fp] := fun b o e hbf hb => by
      rw [hhot] at hb
      rcases List.mem_cons.mp hb with q | q
      · rw [q, get?_size] at e; cases e
      · rcases List.mem_append.mp q with q | q
        · rw [hL b (Nat.le_of_lt (hcge b q))] at e; cases e
        · exact hbf q
    obtain ⟨h₁, tk₁, hs₁⟩ := I.toInCall.same
    have C : Core prog w Γ (Kbut fp s) ⟨params.zip args ++ rest.map (fun x => (x, .undef)), [some (.ext e)]⟩ [] s₁ F (bindL (callEnvC fd s.heap.objs.size f).kindOf (params.zip vs) fun _ => none) (bindC (callEnvC fd s.heap.objs.size f).kindOf (params.zip vs) fun _ => none) [fp] := {
      ok := {
        kind := hsc.kind
        nodup := hsc.nodup
        kinds := fun x hx => by
          obtain ⟨a, b⟩ := hsc.kinds x hx
          refine ⟨a, b.imp id fun ⟨b1, b2⟩ => ⟨b1, ?_⟩⟩
          have : x ∈ (cellsFrom (s.heap.objs.size + 1) fd.scope.names []).map (·.1) := by rw [cellsFrom_fst]; simpa using b2
          obtain ⟨q, hq, e⟩ := List.mem_map.mp this
          obtain ⟨x1, c⟩ := q
          cases e
          exact ⟨c, lookup_of_mem hq hcn⟩
        ocs := fun _ _ e => e
        glob := fun x v hx => let ⟨u, h1, h2⟩ := hglob x v hx; ⟨u, h1, fun A E s Q p hk _ hq => h2 _ A E s Q p rfl hgl hbi hk hq⟩
        room := by show A.depth + 1 < recursionLimit; omega
        units := by show A.units + 3 + 10 < cLine; omega
        handled := hh
        lo1 := htk }
      base := hB1
      frz := fun b o e => I.toInCall.keep _ _ (hF _ _ e)
      frzH := fun b o e => hne b o (hF _ _ e) fun q => by rw [hFfp b q] at e; cases e
      kept := fun b o e => by dsimp only at e; split at e; (· cases e); (· exact I.toInCall.keep _ _ e)
      keptH := fun b o e => by dsimp only at e; split at e; (· cases e); (· rename_i q; exact hne b o e q)
      hx := fun _ _ e => by cases e
      held := fun _ hb => nomatch hb
      hot := by
        rw [hhot]
        refine List.nodup_cons.mpr ⟨fun hm => ?_, List.nodup_append.mpr ⟨?_, hnd, fun a ha b hb e => ?_⟩⟩
        · rcases List.mem_append.mp hm with q | q
          · exact absurd (hcge _ q) (Nat.lt_irrefl _)
          · obtain ⟨o, e⟩ := hfpl _ q; rw [get?_size] at e; cases e
        · unfold List.Nodup; rw [List.pairwise_map]; exact hap
        · subst e
          obtain ⟨o, e⟩ := hfpl _ hb
          rw [hL a (Nat.le_of_lt (hcge a ha))] at e; cases e
      live := fun b hb => by
        rw [hhot] at hb
        rcases List.mem_cons.mp hb with h | h
        · obtain ⟨o, _, _, e, _⟩ := I.toInCall.ns; exact ⟨o, h ▸ e⟩
        · rcases List.mem_append.mp h with h | h
          · obtain ⟨q, hq, e⟩ := List.mem_map.mp h
            have := I.cell q.1 q.2 (lookup_of_mem hq hcn)
            obtain ⟨o, ho, _⟩ := this
            exact ⟨o, e ▸ ho⟩
          · obtain ⟨o, e⟩ := hfpl b h; exact ⟨o, I.toInCall.keep _ _ e⟩
      ns := I.toInCall.ns
      cell := I.cell
      keys := by
        show (params.zip args ++ rest.map (fun x => (x, MV.undef))).map (·.1) = params ++ rest
        rw [List.map_append, List.map_fst_zip (by rw [hlen]; exact Nat.le_refl _), List.map_map]
        congr 1
        exact List.map_id' rest
      loc := fun x mv hx => by
        rcases List.mem_append.mp hx with hx | hx
        · right
          obtain ⟨i, hi⟩ := List.mem_iff_getElem?.mp hx
          rw [List.getElem?_zip_eq_some] at hi
          obtain ⟨v, hv, hvr⟩ := hvs.get hi.2
          have hz : (x, v) ∈ params.zip vs := List.mem_iff_getElem?.mpr ⟨i, List.getElem?_zip_eq_some.mpr ⟨hi.1, hv⟩⟩
          exact ⟨v, fun hk => bindL_mem hz (by rw [hzf]; exact hnp) hk, fun hk => bindC_mem hz (by rw [hzf]; exact hnp) hk, hvr.mono (Sub.refl F) fun _ _ e => by cases e⟩
        · left
          obtain ⟨y, _, e⟩ := List.mem_map.mp hx
          cases e; rfl
      len := rfl
      pre := ⟨[], rfl⟩
      trk := fun k o hk => by
        cases k with
        | zero =>
          simp at hk; subst hk
          refine ⟨fp, rfl, .ext e fp _ (e.stab _ _ _ _ _ _ (fun a ha => ?_) (e.mono _ _ _ _ _ _ _ (Sub.refl F) (fun _ _ e => by cases e) her))⟩
          obtain ⟨o, e'⟩ := hfpl a ha
          rw [e', I.toInCall.keep _ _ e']
        | succ k => simp at hk
      ps := fun _ hp => nomatch hp
      tok := htk₁
      same := ⟨h₁, tk₁, hs₁⟩
      lim := fun b o e => .inl e
      ext := fun b o e => ⟨o, I.toInCall.keep _ _ e⟩
      ownL := fun k xs _ hk => by
        cases k with
        | zero => simp at hk
        | succ k => simp at hk }
    have hfr : Fresh Γ s F fp := ⟨rfl, rfl, rfl, rfl, fun n c hc => hL c (Nat.le_of_lt (hcge c (List.mem_map.mpr ⟨(n, c), mem_of_lookup hc, rfl⟩)))⟩
    exact wpAny_mono (h Γ hΓ hfr rfl _ [] s₁ _ ⟨F, _, _, [fp], C⟩ fun mf fl σ' s' hq hr => fin Γ mf fl σ' s' hfr hq hr) (fun _ _ x => x) (fun _ _ x => x.elim)
theorem ExtFn.of_def {ℓ : Nat} {hB : Heap} {f : Addr} {oc : Value} {od : Option Addr} {fd : FuncData} {osl : Array (Option Value)} {body : List Stmt} {params rest : List Str} {args : List MV} {e : Ext} {P : MV → Ext → Prop} {glob : List (Str × MV)}
    (ho : hB.get? f = some ⟨oc, od, .func fd, osl⟩) (hcode : hB.CodeRec fd.code fd.qualname) (hlim : hB.NoLimit) (hbody : fd.body = .stmts body) (hclo : fd.closure = [])
    (hgl : fd.globals = mainGlobals) (hbi : fd.builtins = builtinsNs)
    (hbind : ∀ vs, vs.length = params.length → bindArgs fd ⟨vs, []⟩ = pure (params.zip vs)) (hlen : args.length = params.length)
    (hsc : ScopeOk fd.scope (params ++ rest)) (hglob : GlobOk prog w fd.scope hB glob)
    (hco : fd.scope.isCoroutine = false) (hgen : fd.scope.isGenerator = false)
    (h : ∀ Γ : Cx, Γof fd.scope Γ hB ℓ glob → WPs prog w Γ ⟨params.zip args ++ rest.map (fun x => (x, .undef)), [some (.ext e)]⟩ body fun fl σ => ∃ e' l, σ.objs = some (.ext e') :: l ∧ match fl with | .ret mv => Closed mv ∧ P mv e' | .next => P .none e' | _ => False) :
    ExtFn prog w (ℓ + 1) hB (.ref f) args e P := by
  intro A F s vs fp R hd hu hh htk hB1 hF hvs her hnd hFfp hfpl hR
  refine call_core (QF := fun _ fl σ => ∃ e' l, σ.objs = some (.ext e') :: l ∧ match fl with | .ret mv => Closed mv ∧ P mv e' | .next => P .none e' | _ => False) ho hcode hlim hbody hclo hgl hbi hbind hlen hsc hglob hco hgen hd hu hh htk hB1 hF hvs her hnd hFfp hfpl (fun Γ hΓ _ _ => h Γ hΓ) fun Γ mf fl σ' s' fr hq hr => ?_
  · obtain ⟨e', l, hob, hq⟩ := hq
    have fin : ∀ (mv : MV) (v : Value), Closed mv → P mv e' → Rel prog w Γ (Kbut fp s) σ' [(mv, v)] s' → R (.ok (.ret v)) s' := fun mv v hcl hP hr => by
      obtain ⟨F', m', cm', fps', C'⟩ := hr
      obtain ⟨h', tk', es⟩ := C'.same
      rw [fr.sh] at es
      obtain ⟨lf, elf⟩ := C'.pre
      have hfp' : fps'[0]? = some fp := by rw [elf, fr.fps0]; rfl
      have ho' : σ'.objs[0]? = some (some (.ext e')) := by rw [hob]; rfl
      have hlv : ∀ a ∈ fp, ∃ o, s'.heap.get? a = some o := fun a ha => C'.live a (C'.mem_hot ho' hfp' ha)
      obtain ⟨fp₂, e₂, hor⟩ := C'.trk 0 _ ho'
      rw [hfp'] at e₂; cases e₂
      have hrel : e'.rel w F' (rho fps') fp s'.heap := by cases hor with | ext _ _ _ hh => exact hh
      rw [es] at C' hlv hrel ⊢
      have hkeep : ∀ b o, b ∉ fp → s.heap.get? b = some o → h'.get? b = some o := fun b o q e => C'.kept b o ((if_neg q).trans e)
      have hFk : ∀ b o, F b = some o → h'.get? b = some o := fun b o e => hkeep b o (fun q => by rw [hFfp b q] at e; cases e) (hF _ _ e)
      have hS2 : Sub F' (fun b => if (F b).isSome then F b else F' b) := fun b o e => by
        dsimp only
        split
        · rename_i hb
          obtain ⟨o', ho'⟩ := Option.isSome_iff_exists.mp hb
          have h1 := hFk b o' ho'
          have h2 := C'.frz b o e
          rw [h1] at h2; cases h2; exact ho'
        · exact e
      refine hR mv v h' tk' (fun b => if (F b).isSome then F b else F' b) e' hP (by have q := C'.tok; rw [fr.lo] at q; exact q) hkeep hlv (fun b o e => by simp [e]) (fun b o e => ?_) (fun b o e => ?_) ?_ ?_
      · split at e
        · exact hFk b o e
        · exact C'.frz b o e
      · split at e
        · exact .inl e
        · have := C'.lim b o e
          rwa [fr.F0, fr.sh] at this
      · exact (hcl w F' _ v (C'.ps (mv, v) (.head _))).mono hS2 fun _ _ e => e
      · exact e'.mono _ _ _ _ _ _ _ hS2 (fun _ _ e => by cases e) (e'.nor _ _ _ _ _ hrel)
    cases mf with
    | next => obtain ⟨rfl, hr⟩ := hr; exact fin .none .none Closed.none hq (hr.flat .none)
    | brk => exact hq.elim
    | cont => exact hq.elim
    | ret mv => obtain ⟨v, rfl, hr⟩ := hr; exact fin mv v hq.1 hq.2 hr
theorem ExtFn.of_stmt {ℓ : Nat} {hB : Heap} {mg mb : Str → Option Value} (T : TopF hB mg mb) {f : Addr} {qual : Str} {st : Stmt} (hf : IsFn hB f qual st) (params rest : List Str) {args : List MV} {e : Ext} {P : MV → Ext → Prop} (glob : List (Str × MV))
    (hbind : ∀ doc pm cdv ct vs, vs.length = params.length → bindArgs (fnOf (fName st) qual (fArgs st) (fBody st) (fScope st) .none .none doc pm none cdv ct) ⟨vs, []⟩ = pure (params.zip vs)) (hlen : args.length = params.length)
    (hsc : ScopeOk (fScope st) (params ++ rest)) (hglob : ∀ p ∈ glob, GlobAt w hB mg mb (fScope st) p)
    (hco : (fScope st).isCoroutine = false) (hgen : (fScope st).isGenerator = false)
    (h : ∀ Γ : Cx, Γof (fScope st) Γ hB ℓ glob → WPs prog w Γ ⟨params.zip args ++ rest.map (fun x => (x, .undef)), [some (.ext e)]⟩ (fBody st) fun fl σ => ∃ e' l, σ.objs = some (.ext e') :: l ∧ match fl with | .ret mv => Closed mv ∧ P mv e' | .next => P .none e' | _ => False) :
    ExtFn prog w (ℓ + 1) hB (.ref f) args e P := by
  obtain ⟨oc, od, osl, pm, cdv, ct, doc, h1, h2⟩ := hf
  exact ExtFn.of_def h1 h2 T.nolimit rfl rfl rfl rfl (hbind doc pm cdv ct) hlen hsc (GlobOk.of T hsc.kind hglob) hco hgen h
theorem nodup_at {o : MO} {fp : List Addr} : ∀ {os : List (Option MO)} {fps : List (List Addr)} {k : Nat}, os[k]? = some (some o) → fps[k]? = some fp → (alive os fps).Nodup → fp.Nodup
  | [], _, _, h, _, _ => by simp at h
  | _ :: _, [], _, _, h, _ => by simp at h
  | x :: os, g :: fps, 0, h1, h2, h3 => by simp at h1 h2; subst h1 h2; exact (List.nodup_append.mp h3).1
  | none :: os, g :: fps, k + 1, h1, h2, h3 => nodup_at (os := os) (fps := fps) (k := k) (by simpa using h1) (by simpa using h2) h3
  | some _ :: os, g :: fps, k + 1, h1, h2, h3 => nodup_at (os := os) (fps := fps) (k := k) (by simpa using h1) (by simpa using h2) (List.nodup_append.mp h3).2.1
theorem Core.callExt (C : Core prog w Γ K σ ps s F m cm fps) {A : Around} {ℓ k : Nat} {hB : Heap} {f : Value} {args : List MV} {vs : List Value} {e : Ext} {P : MV → Ext → Prop} {R : Result → Shared → Prop} (h1 : A.depth + ℓ < recursionLimit) (h2 : A.units + 20 * ℓ < cLine) (h3 : A.handled = none)
    (g2 : ∀ b o, hB.get? b = some o → Γ.hB b = some o) (hf : ExtFn prog w ℓ hB f args e P) (hc : ∀ x ∈ args, Closed x) (hk : ObjAt σ k (.ext e)) {fp : List Addr} (hfp : fps[k]? = some fp) (hvs : VRs w F (rho fps) args vs)
    (hR : ∀ mv v e' s' F', P mv e' → Core prog w Γ K { σ with objs := σ.objs.set k (some (.ext e')) } ((mv, v) :: ps) s' F' m cm fps → (∀ b o, b ∉ fp → s.heap.get? b = some o → s'.heap.get? b = some o) → R (.ok (.ret v)) s') :
    codeAny (model prog w) A (.call f ⟨vs, []⟩) R s := by
  obtain ⟨fp₁, hfp₁, hor⟩ := C.trk k _ hk
  rw [hfp] at hfp₁; cases hfp₁
  have hrel : e.rel w F (rho fps) fp s.heap := by cases hor with | ext _ _ _ hh => exact hh
  have hfh : ∀ a ∈ fp, a ∈ Γ.hot σ.objs fps := fun a ha => C.mem_hot hk hfp ha
  refine hf A F s vs fp _ h1 h2 h3 (Nat.le_trans C.ok.lo1 C.tok) (fun b o e => C.base b o (g2 b o e)) C.frz ⟨hvs.1, fun i x v hx hv => hc x (List.mem_of_getElem? hx) w F _ v (hvs.2 i x v hx hv)⟩ (e.nor _ _ _ _ _ hrel) ?_ (fun a ha => ?_) (fun a ha => C.live a (hfh a ha)) fun mv v h' tk F' e' hP ht hk' hl' hS hF' hn hv hr' => ?_
  · obtain ⟨n1, n2⟩ := List.nodup_cons.mp C.hot
    exact nodup_at hk hfp (List.nodup_append.mp n2).2.1
  · cases q : F a with
    | none => rfl
    | some o => exact absurd (hfh a ha) (C.frzH a o q)
  · exact hR mv v e' _ F' hP ((C.turnObj hk hfp hk' hl' hS hF' hn (.ext e' fp h' (e'.mono _ _ _ _ _ _ _ (Sub.refl _) (fun _ _ e => by cases e) hr')) (fun xs e => by cases e) tk ht).cons (hv.mono (Sub.refl F') fun _ _ e => by cases e)) hk'
/-- such a call -/
theorem wc_ext {ℓ ℓ' k : Nat} {hB : Heap} {f : Addr} {args : List MV} {e : Ext} {P : MV → Ext → Prop} {sc : Scope} {gl : List (Str × MV)} {qual : Str} {st : Stmt} (hΓ : Γof sc Γ hB ℓ' gl) (hf : ExtFn prog w ℓ hB (.ref f) args e P) (hi : IsFn hB f qual st) (hℓ : ℓ ≤ ℓ') (hc : ∀ x ∈ args, Closed x)
    (hk : ObjAt σ k (.ext e)) (h : ∀ mv e', P mv e' → Q mv { σ with objs := σ.objs.set k (some (.ext e')) }) : WPc prog w Γ σ (.ref f) args Q := by
  intro K ps vs s R hl r hR
  obtain ⟨F, m, cm, fps, C⟩ := r
  obtain ⟨g1, g2, g3, g4, g5, g6, g7⟩ := hΓ
  obtain ⟨oc, od, osl, pm, cdv, ct, doc, h1, h2⟩ := hi
  have hfs : s.heap.get? f = some _ := C.frz f _ (C.base f _ (g2 f _ h1))
  obtain ⟨fp, hfp, _⟩ := C.trk k _ hk
  refine ⟨kept_fn hfs rfl, wpAny_call (Core.callExt (C.setps (ps' := ps) fun p hp => C.ps p (List.mem_append_right _ hp)) (by omega) (by omega) C.ok.handled g2 hf hc hk hfp (C.zip hl rfl) fun mv v e' s' F' hP C' _ => hR mv v _ _ (h mv e' hP) ⟨F', m, cm, fps, C'⟩)⟩
/-- what stands in the heap already joins -/
theorem Core.addExt (C : Core prog w Γ K σ ps s F m cm fps) {e : Ext} {fp : List Addr} (hn : fp.Nodup) (hF : ∀ a ∈ fp, F a = none) (hK : ∀ a ∈ fp, K.f a = none) (hH : ∀ a ∈ fp, a ∉ Γ.hot σ.objs fps) (hl : ∀ a ∈ fp, ∃ x, s.heap.get? a = some x) (hr : e.rel w F noρ fp s.heap) :
    Core prog w Γ K { σ with objs := σ.objs ++ [some (.ext e)] } ps s F m cm (fps ++ [fp]) := by
  have hh : Γ.hot (σ.objs ++ [some (.ext e)]) (fps ++ [fp]) = Γ.hot σ.objs fps ++ fp := by unfold Cx.hot; rw [alive_snoc C.len]; simp
  have hrm : ∀ k a, rho fps k = some a → rho (fps ++ [fp]) k = some a := fun k a e => rho_snoc e
  refine { C with
    frzH := fun b x e hb => by
      rw [hh] at hb
      rcases List.mem_append.mp hb with q | q
      · exact C.frzH b x e q
      · rw [hF b q] at e; cases e
    keptH := fun b x e hb => by
      rw [hh] at hb
      rcases List.mem_append.mp hb with q | q
      · exact C.keptH b x e q
      · rw [hK b q] at e; cases e
    hot := by
      rw [hh]
      exact List.nodup_append.mpr ⟨C.hot, hn, fun a ha b hb e => by subst e; exact hH a hb ha⟩
    live := fun b hb => by
      rw [hh] at hb
      rcases List.mem_append.mp hb with q | q
      · exact C.live b q
      · exact hl b q
    loc := fun x mv hx => (C.loc x mv hx).imp id fun ⟨v, h1, h2, h3⟩ => ⟨v, h1, h2, h3.mono (Sub.refl F) hrm⟩
    len := by simp [C.len]
    pre := by obtain ⟨l, e⟩ := C.pre; exact ⟨l ++ [fp], by rw [e, List.append_assoc]⟩
    trk := fun j x hj => ?_
    ps := fun p hp => (C.ps p hp).mono (Sub.refl F) hrm
    ownL := fun j xs fp' hj hj' => ?_ }
  · by_cases q : j < σ.objs.length
    · rw [List.getElem?_append_left q] at hj
      obtain ⟨fp', h1, h2⟩ := C.trk j x hj
      exact ⟨fp', by rw [List.getElem?_append_left (by rw [C.len]; exact q)]; exact h1, h2.mono (Sub.refl F) hrm⟩
    · rw [List.getElem?_append_right (Nat.le_of_not_lt q)] at hj
      have hj0 : j - σ.objs.length = 0 := by
        cases e : j - σ.objs.length with
        | zero => rfl
        | succ i => rw [e] at hj; simp at hj
      rw [hj0] at hj
      simp at hj
      subst hj
      exact ⟨fp, by rw [List.getElem?_append_right (by rw [C.len]; exact Nat.le_of_not_lt q), C.len, hj0]; rfl, .ext e fp _ (e.mono _ _ _ _ _ _ _ (Sub.refl F) (fun _ _ e => by cases e) hr)⟩
  · by_cases q : j < σ.objs.length
    · rw [List.getElem?_append_left q] at hj
      rw [List.getElem?_append_left (by rw [C.len]; exact q)] at hj'
      exact C.ownL j xs fp' hj hj'
    · rw [List.getElem?_append_right (Nat.le_of_not_lt q)] at hj
      have hj0 : j - σ.objs.length = 0 := by
        cases e : j - σ.objs.length with
        | zero => rfl
        | succ i => rw [e] at hj; simp at hj
      rw [hj0] at hj; simp at hj
theorem Core.newF (C : Core prog w Γ K σ ps s F m cm fps) {a : Addr} (ha : s.heap.get? a = none) : F a = none ∧ K.f a = none ∧ a ∉ Γ.hot σ.objs fps ∧ Γ.sh.heap.get? a = none := by
  refine ⟨?_, ?_, fun h => ?_, ?_⟩
  · cases e : F a with
    | none => rfl
    | some o => have := C.frz a o e; rw [ha] at this; cases this
  · cases e : K.f a with
    | none => rfl
    | some o => have := C.kept a o e; rw [ha] at this; cases this
  · obtain ⟨o, e⟩ := C.live a h; rw [ha] at e; cases e
  · cases e : Γ.sh.heap.get? a with
    | none => rfl
    | some o => obtain ⟨o', e'⟩ := C.ext a o e; rw [ha] at e'; cases e'

open Builtin Builtin.ObjectAttr
section
variable {prog : Program} {w : World} {A : Around} {E : Value → Shared → Prop} {h : Heap} {g : Array GenState} {d : Drawn} {t : Nat} {os : OsState}
variable {nm q : Str} {C N x : Addr} {bs : List Value} {sn : List Str} {sub : List Value} {ab : Bool} {col : Option Bool} {dd : Option Addr} {k0 k1 k2 k3 k5 : Option Value} {newId : String}
  {mN mA : Str → Option Value} {name : Str} {v : Value}
/-- a method's call over a value in the instance's own dict -/
theorem gm_own {pl : Sem Bool} {Q : Value × List Value → Shared → Prop}
    (hC : h.get? C = some (excClassObj nm q C N bs [.type "object"] true sn sub ab col dd k0 k1 k2 k3 k5 newId)) (hn : h.Ns N mN) (hng : mN "__getattribute__" = none) (hnh : mN "__getattr__" = none)
    (hna : mN name = none) (hB : typeLookup (.type "object") name = pure none) (I : h.InstFk x C mA) (hv : mA name = some v) (hh : handedOut v = pure v) (hq : Q (v, []) ⟨h, g, d, t + 1, os⟩) :
    wpAny (model prog w) A (getMethod (.ref x) name pl) Q E ⟨h, g, d, t, os⟩ := by
  have I' := I
  obtain ⟨o, hx, hc, hnc, hd⟩ := I
  have hcan := PySem.F.canon_object_ga
  unfold getMethod specialOf
  repeat (first | (with_reducible refine load_attrFk hC hn hng hna hB I' hv hh ?_) | (with_reducible refine wpAny_loadPart_at hx ?_; rw [hc]) | (with_reducible refine wpAny_typeLookup_exc hC hn PySem.F.mro_object PySem.F.lk_object_ga ?_; rw [hng]) | (with_reducible refine wpAny_typeLookup_exc hC hn PySem.F.mro_object PySem.F.lk_object_getattr ?_; rw [hnh]) | (with_reducible refine wpAny_typeLookup_exc hC hn PySem.F.mro_object hB ?_; rw [hna]) | simp only [hcan, Bool.false_eq_true, if_false] | wp_step)
  exact hq
/-- a bound method -/
theorem ga_bound {f : Addr} {of : Obj} {expr : Bool} {Q : Value → Shared → Prop}
    (hC : h.get? C = some (excClassObj nm q C N bs [.type "object"] true sn sub ab col dd k0 k1 k2 k3 k5 newId)) (hn : h.Ns N mN) (hng : mN "__getattribute__" = none) (hnh : mN "__getattr__" = none)
    (hf : mN name = some (.ref f)) (hfo : h.get? f = some of) (hfc : of.cls = .type "function") (hB : typeLookup (.type "object") name = pure none)
    (I : h.InstFk x C mA) (hdic : ∀ o, h.get? x = some o → o.dict ≠ none) (hcn : copiedNames.contains name = false) (hsh : mA name = none) (hq : Q (.ref h.objs.size) ⟨h.push (methodObj (.ref f) (.ref x)), g, d, t + 1, os⟩) :
    wpAny (model prog w) A (getAttr (.ref x) name expr) Q E ⟨h, g, d, t, os⟩ := by
  obtain ⟨o, hx, hc, hnc, hd⟩ := I
  have hTf : ∀ t', (⟨h, g, d, t', os⟩ : Shared).TypeIs (.ref f) "function" := fun _ => ⟨_, hfo, hfc⟩
  unfold getAttr getAttrBy
  repeat (first | (with_reducible refine wpAny_loadPart_at hx ?_; rw [hc]) | (with_reducible refine wpAny_typeLookup_exc hC hn PySem.F.mro_object PySem.F.lk_object_ga ?_; rw [hng]) | wp_step)
  show wpAny _ _ ((runValue (.builtin "proto.getattr_hooked" ⟨[.ref x, .str name t], []⟩)).onRaise (noteIf true (.ref x) (.str name t))) _ _ _
  refine wpAny_onRaise (wpAny_runValue (codeAny_builtin PySem.F.plainObj_entry_getattr_hooked ?_))
  have hlk : typeLookup (.type "function") "__get__" = pure (some (.builtin "function.__get__")) := KF.slot_fn.lookup
  have hls : typeLookup (.type "function") "__set__" = pure none := by rw [typeLookup_type, builtinLookup_eq_fast]; kernel_rfl
  have hld : typeLookup (.type "function") "__delete__" = pure none := by rw [typeLookup_type, builtinLookup_eq_fast]; kernel_rfl
  unfold Builtin.«proto.getattr_hooked»
  repeat (first | (with_reducible refine wpAny_of_eq hlk ?_) | (with_reducible refine wpAny_of_eq hls ?_) | (with_reducible refine wpAny_of_eq hld ?_) | (with_reducible refine wpAny_loadPart_at hx ?_; rw [hc]) | (with_reducible refine wpAny_typeLookup_exc hC hn PySem.F.mro_object hB ?_; rw [hf]) | (with_reducible refine wpAny_typeLookup_exc hC hn PySem.F.mro_object PySem.F.lk_object_getattr ?_; rw [hnh]) | (with_reducible refine wpAny_typeOf (hTf _) ?_) | wp_step)
  split
  · rename_i c hcd
    exact absurd hcd (hnc c)
  unfold instanceDict
  repeat (first | (with_reducible refine wpAny_loadPart_at hx ?_; rw [hc]) | with_reducible refine wpAny_loadPart_at hC ?_ | wp_step)
  rcases hd with ⟨hdn, _⟩ | ⟨dx, hdx, hne, hns, _⟩
  · exact absurd hdn (hdic o hx)
  rw [hdx]
  have hcn' : (["__module__", "__name__", "__qualname__", "__doc__", "__annotations__"] : List Str).contains name = false := hcn
  repeat (first | (with_reducible refine wpAny_nsGet hns.ns ?_; rw [hsh]) | rw [if_neg (by rw [hcn']; exact Bool.false_ne_true)] | wp_step)
  refine wpAny_typeLookup_exc hC hn PySem.F.mro_object PySem.F.lk_object_getattr ?_
  rw [hnh]
  show wpAny _ _ (holding [.ref f] (call (.builtin "function.__get__") [.ref f, .ref x, .ref C]) >>= ret) _ _ _
  refine wpAny_bind (wpAny_holding (wpAny_call (codeAny_call_builtin KF.slot_fn.plain KF.entry_fn (KF.slot_fn.check _ _ _ _ _ _ _ _ ⟨_, hfo, hfc⟩ (KF.args_fn _ _ _) ?_))))
  repeat k_node
  exact hq
end

open Builtin
theorem ci_slot_next : Slot "callable_iterator" "__next__" "callable_iterator.__next__" :=
  .of (owner := "callable_iterator") (n := "__next__") (by rw [typeLookup_type, builtinLookup_eq_fast]; kernel_rfl) (by decide +kernel) (by decide +kernel) (by decide +kernel)
    (by first | exact .inl (by decide +kernel) | exact .inr (by decide +kernel)) (by rw [isSubtype_type]; kernel_rfl)
theorem ci_slot_iter : Slot "callable_iterator" "__iter__" "callable_iterator.__iter__" :=
  .of (owner := "callable_iterator") (n := "__iter__") (by rw [typeLookup_type, builtinLookup_eq_fast]; kernel_rfl) (by decide +kernel) (by decide +kernel) (by decide +kernel)
    (by first | exact .inl (by decide +kernel) | exact .inr (by decide +kernel)) (by rw [isSubtype_type]; kernel_rfl)
theorem ci_entry_next : entryFor table "callable_iterator.__next__" = some Builtin.«callable_iterator.__next__» := entryFor_of_fast (by kernel_rfl)
theorem ci_entry_iter : entryFor table "callable_iterator.__iter__" = some Builtin.«dict_keyiterator.__iter__» := entryFor_alias (id' := "dict_keyiterator.__iter__") (by kernel_rfl) rfl (by decide +kernel) (by kernel_rfl)
theorem ci_args_next (a : Value) : argsOk "callable_iterator.__next__" ⟨[a], []⟩ := by unfold argsOk; kernel_rfl
theorem ci_args_iter (a : Value) : argsOk "callable_iterator.__iter__" ⟨[a], []⟩ := by unfold argsOk; kernel_rfl
theorem iter_args2 (a b : Value) : argsOk "iter" ⟨[a, b], []⟩ := by unfold argsOk; kernel_rfl
theorem meth_call : typeLookup (.type "method") "__call__" = pure (some (.builtin "method.__call__")) := by rw [typeLookup_type, builtinLookup_eq_fast]; kernel_rfl

noncomputable abbrev ciObj (m t : Value) (b : Bool) : Obj := { cls := .type "callable_iterator", data := .fields #[m, t, .bool b] }
section
variable {prog : Program} {w : World} {A : Around} {E : Value → Shared → Prop} {s : Shared}
theorem wpAny_callBorrowed {M : Model} {f : Value} {pos : List Value} {Q : Value → Shared → Prop}
    (hc : codeAny M A (.call f ⟨pos, []⟩) (fun r s' => match r with | .ok (.ret v) => Q v s' | .ok _ => False | .error e => E e s') s) :
    wpAny M A (callBorrowed f pos) Q E s := fun Γ p hΓ => by
  unfold callBorrowed
  rw [Sem.wp_call]
  refine wpCode_mono ?_ (hc _ p rfl (hΓ.enter (.call f ⟨pos, []⟩) none p (by intro x; cases x)))
  intro r s' h
  match r, h with
  | .ok (.ret v), h => exact h
  | .error e, h => exact h
/-- iter(bound, sentinel) -/
theorem call_iter2 {m : Addr} {f x b : Value} {Q : Value → Shared → Prop} (hm : s.heap.get? m = some (methodObj f x)) (hq : Q (.ref s.heap.objs.size) { s with heap := s.heap.push (ciObj (.ref m) b false) }) :
    wpAny (model prog w) A (call (.builtin "iter") [.ref m, b]) Q E s := by
  refine call_function_entry (by decide +kernel) (by decide +kernel) kdk_entry_iter (iter_args2 _ _) ?_
  unfold Builtin.«iter»
  refine wpAny_bind (m := someArgs "iter" 1 2 _) (wpAny_of_eq (a := [Value.ref m, b]) (by first | rfl | kernel_rfl!) ?_)
  show wpAny _ _ (specialOf (.ref m) "__call__" >>= _) _ _ _
  refine wpAny_bind (wpAny_specialOf (T := "method") ⟨_, hm, rfl⟩ meth_call ?_)
  refine wpAny_bind (wpAny_rule ?_)
  exact wpAny_bind (wpAny_newObj_type (wpAny_pure ⟨_, rfl, hq⟩) (by size_fits))
theorem ci_self {I : Addr} {m b : Value} {l : Bool} {Q : Value → Shared → Prop} (hI : s.heap.get? I = some (ciObj m b l)) (h : Q (.ref I) s) : wpAny (model prog w) A (pyIter (.ref I)) Q E s := by
  have hT : s.TypeIs (.ref I) "callable_iterator" := ⟨_, hI, rfl⟩
  refine wpAny_pyIter_slot hT ci_slot_iter (wpAny_call_entry ci_slot_iter hT ci_entry_iter ?_ (ci_args_iter _))
  show wpAny _ _ (ret (.ref I)) _ _ s
  exact wpAny_pure ⟨_, rfl, "callable_iterator", _, hT, ci_slot_next.lookup, h⟩
theorem borrows_meth {M : Model} {m f : Addr} {of : Obj} {fd : FuncData} {x : Value} {Q : Bool → Shared → Prop} (hm : s.heap.get? m = some (methodObj (.ref f) x)) (hf : s.heap.get? f = some of) (hfd : of.data = .func fd) (h : Q true s) :
    wpAny M A (borrowsExactly (.ref m)) Q E s := by
  unfold borrowsExactly
  refine wpAny_bind (wpAny_load hm ?_)
  show wpAny _ _ (if ((Value.type "method" : Value) == Value.type "method") = true then _ else _) _ _ _
  rw [if_pos (by decide)]
  show wpAny _ _ (load f >>= _) _ _ _
  refine wpAny_bind (wpAny_load hf ?_)
  obtain ⟨c, d, dt, sl⟩ := of
  cases hfd
  exact wpAny_pure h
/-- one more -/
theorem ci_next {I m f : Addr} {of : Obj} {fd : FuncData} {x : Value} {t : Tok} {Q : Option Value → Shared → Prop} (hI : s.heap.get? I = some (ciObj (.ref m) (.str Str.empty t) false)) (hm : s.heap.get? m = some (methodObj (.ref f) x)) (hf : s.heap.get? f = some of) (hfd : of.data = .func fd)
    (hc : codeAny (model prog w) A.in1 (.call (.ref f) ⟨[x], []⟩) (fun r s' => match r with | .ok (.ret v) => s'.heap.get? I = some (ciObj (.ref m) (.str Str.empty t) false) ∧ ∃ c u, v = .str c u ∧
      ((Str.empty == c) = false ∧ Q (some v) s' ∨ (Str.empty == c) = true ∧ A.handled = none ∧ s'.heap.get? m = some (methodObj (.ref f) x) ∧ s'.heap.get? f = some of ∧ ∀ h', h'.get? I = some (ciObj .none .none true) → Heap.ExtBut I s'.heap h' → Q none { s' with heap := h' }) | _ => False) s) :
    wpAny (model prog w) A (pyNext (.ref I)) Q E s := by
  have hT : s.TypeIs (.ref I) "callable_iterator" := ⟨_, hI, rfl⟩
  have hd : (ciObj (.ref m) (.str Str.empty t) false).data = .fields #[.ref m, .str Str.empty t, .bool false] := rfl
  unfold pyNext
  refine wpAny_bind (wpAny_attempt (wpAny_callSpecial?_slot (name := Str.ofString "__next__") hT ci_slot_next
    (wpAny_call_entry ci_slot_next hT ci_entry_next ?_ (ci_args_next _))))
  unfold Builtin.«callable_iterator.__next__»
  refine wpAny_bind (wpAny_pure ?_)
  refine wpAny_bind (wpAny_field hI hd (x := .bool false) rfl ?_)
  show wpAny _ _ (field (.ref I) 0 >>= _) _ _ s
  refine wpAny_bind (wpAny_field hI hd (x := .ref m) rfl ?_)
  refine wpAny_bind (wpAny_attempt ?_)
  unfold callOutOfASlot
  refine wpAny_bind (borrows_meth hm hf hfd ?_)
  rw [if_pos rfl]
  refine wpAny_callBorrowed (method_call hm (codeAny_mono hc fun r s' hr => ?_))
  match r, hr with
  | .ok (.ret v), hr =>
    obtain ⟨hI', c, u, rfl, hr⟩ := hr
    show wpAny _ _ (field (.ref I) 2 >>= _) _ _ s'
    refine wpAny_bind (wpAny_field hI' hd (x := .bool false) rfl ?_)
    show wpAny _ _ (field (.ref I) 1 >>= _) _ _ s'
    refine wpAny_bind (wpAny_field hI' hd (x := .str Str.empty t) rfl ?_)
    refine wpAny_bind (wpAny_holding (eqBool_str ?_))
    rcases hr with ⟨hne, hq⟩ | ⟨heq, hh, hm', hf', hq⟩
    · rw [hne]
      exact wpAny_pure ⟨_, rfl, wpAny_pure hq⟩
    · rw [heq]
      refine wpAny_bind (wpAny_rule ?_)
      refine wpAny_bind ?_
      obtain ⟨hp, g, d, tk, os⟩ := s'
      show wpAny _ _ (field (.ref I) 0 >>= _) _ _ _
      refine wpAny_bind (wpAny_field hI' hd (x := .ref m) rfl ?_)
      show wpAny _ _ (slotLetsGo _ (.ref m) _ >>= _) _ _ _
      refine wpAny_bind ?_
      unfold slotLetsGo
      refine wpAny_bind (borrows_meth hm' hf' hfd ?_)
      refine wpAny_pure ?_
      show wpAny _ _ (setField (.ref I) 0 .none >>= _) _ _ _
      refine wpAny_bind (wpAny_setField_rec hI' (by simp) fun h₂ he₂ hs₂ => ?_)
      replace he₂ : h₂.get? I = some (ciObj .none (.str Str.empty t) false) := he₂
      refine wpAny_bind (wpAny_setField_rec he₂ (by simp) fun h₃ he₃ hs₃ => ?_)
      replace he₃ : h₃.get? I = some (ciObj .none .none false) := he₃
      refine wpAny_setField_rec he₃ (by simp) fun h₄ he₄ hs₄ => ?_
      replace he₄ : h₄.get? I = some (ciObj .none .none true) := he₄
      show wpAny _ _ (newExc (.type "StopIteration") [] >>= _) _ _ _
      refine wpAny_bind ?_
      simp only [newExc, newTuple]
      refine wpAny_bind (wpAny_newObj_type ?_ (by size_fits))
      refine wpAny_bind (m := firstArgMember _ _) (wpAny_of_eq (a := Value.none) (by first | rfl | (simp only [firstArgMember]; rfl)) ?_)
      refine wpAny_newObj_type ?_ (by size_fits)
      simp only [raiseNew]
      refine wpAny_bind (wpAny_handled ?_)
      rw [show A.in1.handled = none from hh]
      refine wpAny_bind (wpAny_pure (wpAny_throw ?_))
      refine wpAny_bind (wpAny_isInstance (T := "StopIteration") (b := true) ⟨_, Heap.get?_push_size _ rfl, rfl⟩ isSubtype_stop ?_)
      exact wpAny_pure (hq _ (Heap.get?_push_of_some _ (Heap.get?_push_of_some _ he₄)) fun b o hb e => Heap.get?_push_of_some _ (Heap.get?_push_of_some _ (hs₄.extBut b o hb (hs₃.extBut b o hb (hs₂.extBut b o hb e)))))
/-- none is left -/
theorem ci_ended {I : Addr} {Q : Option Value → Shared → Prop} (hh : A.handled = none) (hI : s.heap.get? I = some (ciObj .none .none true)) (hq : ∀ h', (∀ b o, s.heap.get? b = some o → h'.get? b = some o) → Q none { s with heap := h' }) :
    wpAny (model prog w) A (pyNext (.ref I)) Q E s := by
  have hT : s.TypeIs (.ref I) "callable_iterator" := ⟨_, hI, rfl⟩
  have hd : (ciObj .none .none true).data = .fields #[.none, .none, .bool true] := rfl
  unfold pyNext
  refine wpAny_bind (wpAny_attempt (wpAny_callSpecial?_slot (name := Str.ofString "__next__") hT ci_slot_next
    (wpAny_call_entry ci_slot_next hT ci_entry_next ?_ (ci_args_next _))))
  unfold Builtin.«callable_iterator.__next__»
  refine wpAny_bind (wpAny_pure ?_)
  refine wpAny_bind (wpAny_field hI hd (x := .bool true) rfl ?_)
  show wpAny _ _ (rule _ >>= _) _ _ _
  refine wpAny_bind (wpAny_rule ?_)
  obtain ⟨hp, g, d, tk, os⟩ := s
  refine wpAny_bind ?_
  show wpAny _ _ (newExc (.type "StopIteration") [] >>= _) _ _ _
  refine wpAny_bind ?_
  simp only [newExc, newTuple]
  refine wpAny_bind (wpAny_newObj_type ?_ (by size_fits))
  refine wpAny_bind (m := firstArgMember _ _) (wpAny_of_eq (a := Value.none) (by first | rfl | (simp only [firstArgMember]; rfl)) ?_)
  refine wpAny_newObj_type ?_ (by size_fits)
  simp only [raiseNew]
  refine wpAny_bind (wpAny_handled ?_)
  rw [show A.in1.handled = none from hh]
  refine wpAny_bind (wpAny_pure (wpAny_throw ?_))
  refine wpAny_bind (wpAny_isInstance (T := "StopIteration") (b := true) ⟨_, Heap.get?_push_size _ rfl, rfl⟩ isSubtype_stop ?_)
  exact wpAny_pure (hq _ fun b o e => Heap.get?_push_of_some _ (Heap.get?_push_of_some _ e))
end

variable {prog : Program} {w : World} {Γ Γ' : Cx} {K K' : Kp} {σ σ' : St} {ps qs : List (MV × Value)} {s s' : Shared} {F F' : Frz} {m cm : Str → Option Value} {fps : List (List Addr)}
variable {Q : MV → St → Prop} {QB : Bool → St → Prop} {QF : MF → St → Prop} {QU : St → Prop} {QL : List MV → St → Prop}

theorem oper {M : Model} {A : Around} {E : Value → Shared → Prop} {vs : List Value} {t : Sem Value} {R : Value → Shared → Prop} (h : wpAny M A t R E s) : wpAny M A (operate vs t) R E s := fun Γ p hΓ => by
  rw [Sem.wp_operate]; exact h Γ p hΓ
theorem wp_and {e₁ e₂ : Expr} {es : List Expr} {p : Pos} (h : WPe prog w Γ σ e₁ fun x σ₁ => ∃ b, x = .bool b ∧ (b = true → WPe prog w Γ σ₁ (.BoolOp .And (e₂ :: es) p) Q) ∧ (b = false → Q (.bool false) σ₁)) : WPe prog w Γ σ (.BoolOp .And (e₁ :: e₂ :: es) p) Q := by
  intro K ps s R r hR
  refine BoolOp_and (h K ps s _ r fun x v σ₁ s₁ hq r₁ => ?_)
  obtain ⟨b, rfl, h1, h2⟩ := hq
  obtain rfl := r₁.bool
  refine wpAny_truthy_bool ?_
  cases b with
  | true => rw [if_pos rfl]; exact h1 rfl K ps s₁ R r₁.drop hR
  | false => rw [if_neg (by simp)]; exact hR _ _ _ _ (h2 rfl) r₁
theorem wp_and1 {e : Expr} {p : Pos} (h : WPe prog w Γ σ e Q) : WPe prog w Γ σ (.BoolOp .And [e] p) Q := fun K ps s R r hR => BoolOp_one (h K ps s R r hR)
theorem wp_chain {l r₁ r₂ : Expr} {o₁ o₂ : CmpOp} {p : Pos} (h : WPe prog w Γ σ l fun x σ₁ => WPe prog w Γ σ₁ r₁ fun y σ₂ => WP2 prog w Γ σ₂ x y (compareOp o₁) fun c σ₃ => ∃ b, c = .bool b ∧ σ₃ = σ₂ ∧ (∃ i, y = .int i ∧ (b = true → WPe prog w Γ σ₂ r₂ fun z σ₄ => WP2 prog w Γ σ₄ (.int i) z (compareOp o₂) Q)) ∧ (b = false → Q (.bool false) σ₂))
    (hm : behindInMarks o₂ r₂ = false := by with_unfolding_all rfl) : WPe prog w Γ σ (.Compare l [o₁, o₂] [r₁, r₂] p) Q := by
  intro K ps s R r hR
  show wpAny _ Γ.A (do let a ← eval l Γ.env; compareChain p a [o₁, o₂] [eval r₁ Γ.env, markedBehindIn o₂ r₂ (eval r₂ Γ.env)]) R _ s
  rw [markedBehindIn_of_false hm]
  refine wpAny_bind (h K ps s _ r fun x v σ₁ s₁ h₁ r₁' => ?_)
  show wpAny _ Γ.A (do
    let rv ← holding [v] (eval r₁ Γ.env)
    standAt p
    let c ← holding [v, rv] (compareOp o₁ v rv)
    release [v, rv] [c]
    if ← holding [c, rv] (truthy c) then compareChain p rv [o₂] [eval r₂ Γ.env] else pure c) R _ s₁
  refine wpAny_bind (wpAny_holding (h₁ K _ s₁ _ r₁' fun y u σ₂ s₂ h₂ r₂' => wpAny_bind (wpAny_standAt (wpAny_bind (wpAny_holding ?_)))))
  have r₂'' : Rel prog w Γ K σ₂ ((y, u) :: (x, v) :: (y, u) :: ps) s₂ := r₂'.perm fun q hq => by
    simp only [List.mem_cons] at hq ⊢
    rcases hq with h | h | h | h
    · exact .inl h
    · exact .inr (.inl h)
    · exact .inl h
    · exact .inr (.inr h)
  refine h₂ K ((y, u) :: ps) v u s₂ _ r₂'' fun c cv σ₃ s₃ h₃ r₃ => ?_
  obtain ⟨b, rfl, rfl, ⟨i, rfl, ht⟩, hf⟩ := h₃
  obtain rfl := r₃.bool
  refine wpAny_bind (wpAny_release (wpAny_bind (wpAny_holding (wpAny_truthy_bool ?_))))
  cases b with
  | true =>
    rw [if_pos rfl]
    show wpAny _ Γ.A (do let rv ← holding [u] (eval r₂ Γ.env); standAt p; operate [u, rv] (compareOp o₂ u rv)) R _ s₃
    refine wpAny_bind (wpAny_holding (ht rfl K ((.int i, u) :: ps) s₃ _ r₃.drop fun z zv σ₄ s₄ h₄ r₄ => wpAny_bind (wpAny_standAt (oper ?_))))
    exact h₄ K ps u zv s₄ R r₄ hR
  | false => rw [if_neg (by simp)]; exact wpAny_pure (hR _ _ _ _ (hf rfl) (r₃.perm fun q hq => by
      simp only [List.mem_cons] at hq ⊢
      rcases hq with h | h
      · exact .inl h
      · exact .inr (.inr h)))
theorem it_mu {k : Nat} {xs : List MV} {i : Int} {z : MV} (hk : ObjAt σ k (.lst xs)) (h0 : 0 ≤ i) (hi : i < 9223372036854775808) (hz : xs[i.toNat]? = some z) (h : Q z σ) : WIt prog w Γ σ (.mu k) (.int i) Q := by
  intro value slice hp K ps v u s R r hR
  obtain ⟨t, rfl⟩ := r.int
  have r' := r.drop
  obtain ⟨a, vs, n, rfl, hg, hl, _⟩ := r'.muAt hk
  obtain ⟨F, m, cm, fps, C⟩ := r'
  obtain ⟨fp, hfp, ho⟩ := C.trk k _ hk
  have hv : VRs w F (rho fps) xs vs ∧ rho fps k = some a := by
    cases ho with
    | lst b _ us n' _ hh hv =>
      have h2 : VR w F (rho fps) (.mu k) (.ref a) := C.ps (.mu k, .ref a) (.head _)
      cases h2 with
      | mu _ _ hb =>
        have : rho fps k = some b := by unfold rho; rw [hfp]; rfl
        rw [this] at hb; cases hb
        rw [hg] at hh
        have e : vs = us := by
          injection hh with e; injection e with _ _ e _; injection e with e _; exact congrArg Array.toList e
        subst e; exact ⟨hv, this⟩
  obtain ⟨y, hy1, hy2⟩ := hv.1.get hz
  exact item_listR (items := vs.toArray) ⟨_, hg, rfl, n, rfl⟩ h0 hi (by simpa using hy1) (hR _ _ _ _ h ⟨F, m, cm, fps, C.drop.cons hy2⟩) (hp _ _)
/-- cells[i] += x -/
theorem wx_augmu {o i e : Expr} {p' p : Pos} {k : Nat} {xs : List MV} {j a : Int} (ho : WPe prog w Γ σ o fun x σ₁ => x = .mu k ∧ σ₁ = σ) (hi : WPe prog w Γ σ i fun x σ₁ => x = .int j ∧ σ₁ = σ) (hk : ObjAt σ k (.lst xs)) (hz : xs.length ≤ 1000) (h0 : 0 ≤ j) (hx : xs[j.toNat]? = some (.int a))
    {b : Int} (he : WPe prog w Γ σ e fun x σ₁ => x = .int b ∧ σ₁ = σ) (h : QF .next { σ with objs := σ.objs.set k (some (.lst (xs.set j.toNat (.int (a + b))))) })
    (ha : ∀ ov iv new, augStore i ov iv new = (do holding [new, ov, iv] (setItem ov iv new); release [new, ov, iv] []; pure .next)) : WPx prog w Γ σ (.AugAssign (.Subscript o i p') .Add e p) QF := by
  intro K ps s R r hR
  have hj : j.toNat < xs.length := (List.getElem?_eq_some_iff.mp hx).1
  refine wpAny_AugAssign_Subscript_any (ho K ps s _ r fun x v σ₁ s₁ hq r₁ => ?_) ha
  obtain ⟨rfl, rfl⟩ := hq
  refine hi K _ s₁ _ r₁ fun y u σ₂ s₂ hq₂ r₂ => ?_
  obtain ⟨rfl, rfl⟩ := hq₂
  obtain ⟨t, rfl⟩ := r₂.int
  have r₃ := r₂.drop
  obtain ⟨A, vs, n, rfl, hg, hl, _⟩ := r₃.muAt hk
  have hy : ∃ t, vs[j.toNat]? = some (.int a t) := by
    obtain ⟨F, m, cm, fps, C⟩ := r₃
    obtain ⟨fp, hfp, hor⟩ := C.trk k _ hk
    cases hor with
    | lst b' _ us n' _ hh hv =>
      have h2 : VR w F (rho fps) (.mu k) (.ref A) := C.ps (.mu k, .ref A) (.head _)
      cases h2 with
      | mu _ _ hb =>
        have : rho fps k = some b' := by unfold rho; rw [hfp]; rfl
        rw [this] at hb; cases hb
        rw [hg] at hh
        have e : vs = us := by
          injection hh with e; injection e with _ _ e _; injection e with e _; exact congrArg Array.toList e
        subst e
        obtain ⟨y, h1, h2⟩ := hv.get hx
        obtain ⟨t, rfl⟩ := h2.intInv
        exact ⟨t, h1⟩
  obtain ⟨ta, hy⟩ := hy
  refine wpAny_getItem_list (items := vs.toArray) (x := .int a ta) ⟨_, hg, rfl, n, rfl⟩ h0 (by show j < 9223372036854775808; omega) (by simpa using hy) ?_
  refine he K _ s₂ _ r₃ fun z zv σ₃ s₃ hq₃ r₄ => ?_
  obtain ⟨rfl, rfl⟩ := hq₃
  obtain ⟨tb, rfl⟩ := r₄.int
  refine iadd_int ?_
  have r₅ : Rel prog w Γ K σ₃ ((.mu k, .ref A) :: ps) { s₃ with toks := s₃.toks + 1 } := r₄.drop.toks _
  obtain ⟨A', vs', n', e', hg', hl', go⟩ := r₅.muAt hk
  cases e'
  obtain ⟨n'', e''⟩ : ∃ n'', Obj.mapSeq (·.setIfInBounds j.toNat (.int (a + b) s₃.toks)) (listO vs' n') = listO (vs'.set j.toNat (.int (a + b) s₃.toks)) n'' := ⟨_, by
    unfold Obj.mapSeq listO
    dsimp only
    rw [List.setIfInBounds_toArray]⟩
  refine ki_setAt (items := vs'.toArray) (n := n') hg' h0 (by show j < 9223372036854775808; omega) (by rw [List.size_toArray, hl']; omega) ?_
  have hob : (s₃.heap.update A (Obj.mapSeq (·.setIfInBounds j.toNat (.int (a + b) s₃.toks)))).get? A = some (listO (vs'.set j.toNat (.int (a + b) s₃.toks)) n'') := by
    rw [Heap.get?_update_self _ hg' (by rw [e'']; rfl), e'']
  have := go [(.int (a + b), .int (a + b) s₃.toks)] (xs.set j.toNat (.int (a + b))) (vs'.set j.toNat (.int (a + b) s₃.toks)) _ n'' (r₅.flat (.int _ _)) (by simp [hl']) (fun q hq => ?_) (fun b' hb => (Heap.SameBut.update ..).2 b' hb) hob
  · exact hR .next .next _ _ h ⟨rfl, this⟩
  · rw [List.mem_iff_getElem?] at hq
    obtain ⟨i', hq⟩ := hq
    rw [List.getElem?_zip_eq_some] at hq
    rw [List.getElem?_set, List.getElem?_set] at hq
    by_cases q1 : j.toNat = i'
    · rw [if_pos q1, if_pos q1] at hq
      obtain ⟨q2, q3⟩ := hq
      split at q2 <;> split at q3 <;> simp_all
    · rw [if_neg q1, if_neg q1] at hq
      exact .inl (List.mem_iff_getElem?.mpr ⟨i', List.getElem?_zip_eq_some.mpr hq⟩)
theorem sl_upto {xs : List MV} {b : Nat} (hz : xs.length ≤ sizeLine) (h : Q (.list (xs.take b)) σ) : WSl prog w Γ σ (.list xs) none (some (b : Int)) Q := by
  intro K ps v l u s R hl hu r hR
  obtain ⟨a, vs, n, rfl, hg, hvl, r'⟩ := r.listAt
  have hg' : (s.heap.push { cls := .type "slice", data := .fields #[partValue l, partValue u, .none] }).get? a = some (listO vs n) := Heap.get?_push_of_some _ hg
  obtain rfl : l = none := by cases l with | none => rfl | some x => cases hl
  obtain ⟨t, rfl⟩ : ∃ t, u = some ((b : Int), t) := by
    cases u with
    | none => cases hu
    | some x => obtain ⟨i, t⟩ := x; cases hu; exact ⟨t, rfl⟩
  refine ⟨"list", _, slot_list_getitem.lookup, ⟨_, hg', rfl⟩, wpAny_getItem_list_slice (items := vs.toArray) (lo := none) (hi := some (b : Int)) (st := none) ⟨_, hg', rfl, n, rfl⟩ ⟨_, Heap.get?_push_size _ rfl, rfl, rfl⟩ .none (.int _ _) .none (by simp) ?_ (by rw [List.size_toArray, hvl]; exact hz)⟩
  rw [slicePick_upto']
  refine hR _ _ _ _ h (Rel.mk_list (xs := xs.take b) (vs := vs.take b) (by simp [hvl]) ((r'.push s.toks).perm fun p hp => ?_))
  rcases List.mem_append.mp hp with q | q
  · refine List.mem_append_left _ ?_
    obtain ⟨i, hi⟩ := List.mem_iff_getElem?.mp q
    rw [List.getElem?_zip_eq_some, List.getElem?_take, List.getElem?_take] at hi
    by_cases hb : i < b
    · rw [if_pos hb, if_pos hb] at hi
      exact List.mem_iff_getElem?.mpr ⟨i, List.getElem?_zip_eq_some.mpr hi⟩
    · rw [if_neg hb] at hi; cases hi.1
  · exact List.mem_append_right _ q

variable {prog : Program} {w : World} {Γ Γ' : Cx} {K K' : Kp} {σ σ' : St} {ps qs : List (MV × Value)} {s s' : Shared} {F F' : Frz} {m cm : Str → Option Value} {fps : List (List Addr)}
variable {Q : MV → St → Prop} {QB : Bool → St → Prop} {QF : MF → St → Prop} {QU : St → Prop} {QL : List MV → St → Prop}
/-- an object is let go -/
theorem Core.dropExt (C : Core prog w Γ K σ ps s F m cm fps) {k : Nat} {o : MO} {fp : List Addr} {h' : Heap} (hk : σ.objs[k]? = some (some o)) (hfp : fps[k]? = some fp) (hs : ∀ b x, b ∉ fp → s.heap.get? b = some x → h'.get? b = some x) (hsh : ∀ a ∈ fp, Γ.sh.heap.get? a = none) (t : Nat) (ht : s.toks ≤ t) :
    Core prog w Γ K { σ with objs := σ.objs.set k none } ps { s with heap := h', toks := t } F m cm fps := by
  have hsub : (Γ.hot (σ.objs.set k none) fps).Sublist (Γ.hot σ.objs fps) := List.Sublist.cons_cons _ (List.Sublist.append (List.Sublist.refl _) (alive_sub hk))
  have hm : ∀ a ∈ fp, a ∈ alive σ.objs fps := fun a ha => mem_alive hk hfp ha
  obtain ⟨n1, n2⟩ := List.nodup_cons.mp C.hot
  obtain ⟨n3, n4, n5⟩ := List.nodup_append.mp n2
  have key : ∀ {os : List (Option MO)} {fps : List (List Addr)} {k : Nat}, os[k]? = some (some o) → fps[k]? = some fp → (alive os fps).Nodup → ∀ a ∈ fp, a ∉ alive (os.set k none) fps := by
    intro os
    induction os with
    | nil => intro fps k h; simp at h
    | cons x os ih =>
      intro fps k h1 h2 h3 a ha
      cases fps with
      | nil => simp at h2
      | cons f fps =>
        cases k with
        | zero =>
          simp at h1 h2; subst h1 h2
          intro hm
          exact (List.nodup_append.mp h3).2.2 a ha a hm rfl
        | succ k =>
          have h1' : os[k]? = some (some o) := by simpa using h1
          have h2' : fps[k]? = some fp := by simpa using h2
          cases x with
          | none => exact ih h1' h2' h3 a ha
          | some o' =>
            intro hm
            have h3' := List.nodup_append.mp h3
            rcases List.mem_append.mp hm with hm | hm
            · exact h3'.2.2 a hm a (mem_alive h1' h2' ha) rfl
            · exact ih h1' h2' h3'.2.1 a ha hm
  have hnot : ∀ b ∈ Γ.hot (σ.objs.set k none) fps, b ∉ fp := fun b hb hf => by
    rcases List.mem_cons.mp hb with h | h
    · exact n1 (h ▸ List.mem_append_right _ (hm b hf))
    · rcases List.mem_append.mp h with h | h
      · exact n5 b h b (hm b hf) rfl
      · exact key hk hfp n4 b hf h
  refine { C with
    frz := fun b x e => hs b x (fun q => C.frzH b x e (C.mem_hot hk hfp q)) (C.frz b x e)
    frzH := fun b x e hb => C.frzH b x e (hsub.mem hb)
    kept := fun b x e => hs b x (fun q => C.keptH b x e (C.mem_hot hk hfp q)) (C.kept b x e)
    keptH := fun b x e hb => C.keptH b x e (hsub.mem hb)
    hot := C.hot.sublist hsub
    live := fun b hb => let ⟨x, e⟩ := C.live b (hsub.mem hb); ⟨x, hs b x (hnot b hb) e⟩
    ns := C.ns.at' fun x e => hs _ x (hnot _ (.head _)) e
    cell := fun n c e => by
      obtain ⟨x, e', d⟩ := C.cell n c e
      exact ⟨x, hs _ _ (hnot c (List.mem_cons_of_mem _ (List.mem_append_left _ (List.mem_map.mpr ⟨(n, c), mem_of_lookup e, rfl⟩)))) e', d⟩
    len := by rw [List.length_set]; exact C.len
    tok := Nat.le_trans C.tok ht
    trk := fun j x hj => ?_
    same := by obtain ⟨h, tk, e⟩ := C.same; exact ⟨h', t, by rw [e]⟩
    ext := fun b x e => ?_
    ownL := fun j xs fp' hj => ?_ }
  · rw [List.getElem?_set] at hj
    split at hj
    · split at hj <;> cases hj
    · rename_i q
      obtain ⟨fp', h1, h2⟩ := C.trk j x hj
      refine ⟨fp', h1, h2.stab fun a ha => ?_⟩
      obtain ⟨y, ey⟩ := C.live a (C.mem_hot hj h1 ha)
      rw [ey]; exact hs a y (alive_apart n4 hj h1 hk hfp (fun e => q e.symm) a ha) ey
  · obtain ⟨x', e'⟩ := C.ext b x e
    exact ⟨x', hs b x' (fun q => by rw [hsh b q] at e; cases e) e'⟩
  · rw [List.getElem?_set] at hj
    split at hj
    · split at hj <;> cases hj
    · exact C.ownL j xs fp' hj
/-- enumerate over a list -/
noncomputable def enE (e it l : Addr) (xs : List MV) (i : Nat) : Ext where
  rel := fun w F _ fp h => fp = [e, it] ∧ e ≠ it ∧ (∃ old, IsEnum h e it i old) ∧ (∃ o, h.get? it = some o ∧ o.cls = .type "list_iterator" ∧ o.data = .fields #[.ref l, .int i 0]) ∧ ∃ vs n, F l = some (listO vs n) ∧ VRs w F noρ xs vs
  mono := fun w F F' _ _ _ _ hF _ r => by
    obtain ⟨r1, r2, r3, r4, vs, n, r5, r6⟩ := r
    exact ⟨r1, r2, r3, r4, vs, n, hF _ _ r5, r6.mono hF fun _ _ e => e⟩
  stab := fun _ _ _ _ _ _ hk r => by
    obtain ⟨rfl, r2, ⟨old, r3⟩, ⟨o, r4, r5⟩, r6⟩ := r
    exact ⟨rfl, r2, ⟨old, (hk _ (.head _)).trans r3⟩, ⟨o, (hk _ (.tail _ (.head _))).trans r4, r5⟩, r6⟩
  nor := fun _ _ _ _ _ r => r
section
variable {en it l : Addr} {xs : List MV} {i : Nat} {loc : List (Str × MV)} {objs : List (Option MO)} {Q : Option Value → Shared → Prop} {E : Value → Shared → Prop}
theorem forE_item {ts : List Expr} {tk : Nat} {tp : Pos} {Y : Value → Shared → Prop} {E' : Value → Shared → Prop} (r : Rel prog w Γ K ⟨loc, objs ++ [some (.ext (enE en it l xs i))]⟩ ps s') (hi : i < xs.length)
    (hQ : ∀ v s₁, wpAny (model prog w) Γ.A (letOwnedTupleGo (.Tuple ts tk tp) (.ref en) v) (fun _ s₂ => Y v s₂) E' s₁ → Q (some v) s₁)
    (hY : ∀ a s₂, Rel prog w Γ K ⟨loc, objs ++ [some (.ext (enE en it l xs (i + 1)))]⟩ ((.tup [.int i, xs[i]], .ref a) :: ps) s₂ → Y (.ref a) s₂) : wpAny (model prog w) Γ.A (pyNext (.ref en)) Q E s' := by
  obtain ⟨F', m', cm', fps', C'⟩ := r
  have hk' : (⟨loc, objs ++ [some (.ext (enE en it l xs i))]⟩ : St).objs[objs.length]? = some (some (.ext (enE en it l xs i))) := by simp
  obtain ⟨fp, hfp, hor⟩ := C'.trk _ _ hk'
  have hrel := (show (enE en it l xs i).rel w F' (rho fps') fp s'.heap by cases hor with | ext _ _ _ hh => exact hh)
  obtain ⟨rfl, hne, ⟨old, hEn⟩, hIt', vs', n₂, hFl', hvs'⟩ := hrel
  have hls : s'.heap.IsList l vs'.toArray := ⟨_, C'.frz _ _ hFl', rfl, n₂, rfl⟩
  have hiv : i < vs'.length := by rw [hvs'.1]; exact hi
  have hx : xs[i]? = some xs[i] := List.getElem?_eq_getElem hi
  have hv : vs'.toArray[i]? = some vs'[i] := by simp [hiv]
  have hxv := hvs'.2 i _ _ hx (List.getElem?_eq_getElem hiv)
  refine wpAny_pyNext_enum_item hEn hIt' hls hv hne fun h₁ o1 o2 o3 o4 o5 => ?_
  refine hQ _ _ (wpAny_letOwnedTupleGo_enum o1 fun h₂ he₂ hs₂ => ?_)
  have hTl : s'.heap.get? s'.heap.objs.size = none := get?_size _
  have nT := C'.newF hTl
  have helt : en < s'.heap.objs.size := Heap.lt_size hEn
  have hilt : it < s'.heap.objs.size := by obtain ⟨_, x, _⟩ := hIt'; exact Heap.lt_size x
  have hkeep : ∀ b o, b ∉ [en, it] → s'.heap.get? b = some o → h₂.get? b = some o := fun b o hb e => by
    simp only [List.mem_cons, List.not_mem_nil, or_false, not_or] at hb
    exact hs₂.extBut b o hb.1 (o5 b o hb.1 hb.2 e)
  have hT₂ : h₂.get? s'.heap.objs.size = some (tupO [.int i s'.toks, vs'[i]] 0) := hs₂.extBut _ _ (Nat.ne_of_gt helt) o3
  have hit₂ : ∃ o, h₂.get? it = some o ∧ o.cls = .type "list_iterator" ∧ o.data = .fields #[.ref l, .int ((i + 1 : Nat) : Int) 0] := by
    obtain ⟨o, a, b, c⟩ := o2
    exact ⟨o, hs₂.extBut it o hne.symm a, b, c⟩
  have hS := Frz.put_sub (o := tupO [.int i s'.toks, vs'[i]] 0) nT.1
  have hFn : ∀ b x, (F'.put s'.heap.objs.size (tupO [.int i s'.toks, vs'[i]] 0)) b = some x → F' b = some x ∨ s'.heap.get? b = none := fun b x e => by
    unfold Frz.put at e; split at e
    · rename_i q; subst q; exact .inr hTl
    · exact .inl e
  have hF₂ : ∀ b x, (F'.put s'.heap.objs.size (tupO [.int i s'.toks, vs'[i]] 0)) b = some x → h₂.get? b = some x := fun b x e => by
    unfold Frz.put at e; split at e
    · rename_i q; subst q; cases e; exact hT₂
    · exact hkeep b x (fun q => C'.frzH b x e (C'.mem_hot hk' hfp q)) (C'.frz b x e)
  have C₃ := C'.turnObj (h' := h₂) hk' hfp hkeep (fun a ha => by
    simp only [List.mem_cons, List.not_mem_nil, or_false] at ha
    obtain ⟨o, i1, _⟩ := hit₂
    rcases ha with rfl | rfl
    · exact ⟨_, he₂⟩
    · exact ⟨_, i1⟩) hS hF₂ hFn (.ext (enE en it l xs (i + 1)) [en, it] h₂ (show _ ∧ _ from ⟨rfl, hne, ⟨_, by rw [Int.natCast_add]; exact he₂⟩, hit₂, vs', n₂, hS _ _ hFl', hvs'.mono hS fun _ _ e => e⟩)) (fun _ e => by cases e) (s'.toks + 1) (Nat.le_succ _)
  have hset : (objs ++ [some (MO.ext (enE en it l xs i))]).set objs.length (some (.ext (enE en it l xs (i + 1)))) = objs ++ [some (.ext (enE en it l xs (i + 1)))] := by
    rw [List.set_append_right _ _ (Nat.le_refl _), Nat.sub_self]; rfl
  have C₄ : Core prog w Γ K ⟨loc, objs ++ [some (.ext (enE en it l xs (i + 1)))]⟩ ((.tup [.int i, xs[i]], .ref s'.heap.objs.size) :: ps) { s' with heap := h₂, toks := s'.toks + 1 } (F'.put s'.heap.objs.size (tupO [.int i s'.toks, vs'[i]] 0)) m' cm' fps' := by
    have := C₃.cons (x := .tup [.int i, xs[i]]) (v := .ref s'.heap.objs.size) (.tup _ _ [.int i s'.toks, vs'[i]] 0 Frz.put_self rfl fun j y u hy hu => by
      match j, hy, hu with
      | 0, hy, hu => cases hy; cases hu; exact .int _ _
      | 1, hy, hu => cases hy; cases hu; exact (hxv.mono (ρ' := rho fps') hS fun _ _ e => by cases e))
    rw [show ({ (⟨loc, objs ++ [some (.ext (enE en it l xs i))]⟩ : St) with objs := (⟨loc, objs ++ [some (.ext (enE en it l xs i))]⟩ : St).objs.set objs.length (some (.ext (enE en it l xs (i + 1)))) } : St) = ⟨loc, objs ++ [some (.ext (enE en it l xs (i + 1)))]⟩ from by rw [hset]] at this
    exact this
  exact hY _ _ ⟨_, m', cm', fps', C₄⟩
theorem forE_end (r : Rel prog w Γ K ⟨loc, objs ++ [some (.ext (enE en it l xs i))]⟩ ps s') (hi : i = xs.length) (hnew : Γ.sh.heap.get? en = none ∧ Γ.sh.heap.get? it = none)
    (hX : ∀ s₂, Rel prog w Γ K ⟨loc, objs ++ [none]⟩ ps s₂ → Q none s₂) : wpAny (model prog w) Γ.A (pyNext (.ref en)) Q E s' := by
  obtain ⟨F', m', cm', fps', C'⟩ := r
  have hk' : (⟨loc, objs ++ [some (.ext (enE en it l xs i))]⟩ : St).objs[objs.length]? = some (some (.ext (enE en it l xs i))) := by simp
  obtain ⟨fp, hfp, hor⟩ := C'.trk _ _ hk'
  have hrel := (show (enE en it l xs i).rel w F' (rho fps') fp s'.heap by cases hor with | ext _ _ _ hh => exact hh)
  obtain ⟨rfl, hne, ⟨old, hEn⟩, hIt', vs', n₂, hFl', hvs'⟩ := hrel
  have hls : s'.heap.IsList l vs'.toArray := ⟨_, C'.frz _ _ hFl', rfl, n₂, rfl⟩
  refine wpAny_pyNext_enum_end C'.ok.handled hEn hIt' hls (by rw [hi, ← hvs'.1]; simp) fun h₁ hx => ?_
  have C₃ := C'.dropExt (h' := h₁) hk' hfp (fun b x hb e => hx b x (fun q => hb (by simp [q])) e) (fun a ha => by
    simp only [List.mem_cons, List.not_mem_nil, or_false] at ha
    rcases ha with rfl | rfl
    · exact hnew.1
    · exact hnew.2) s'.toks (Nat.le_refl _)
  have hset : (objs ++ [some (MO.ext (enE en it l xs i))]).set objs.length none = objs ++ [none] := by
    rw [List.set_append_right _ _ (Nat.le_refl _), Nat.sub_self]; rfl
  have r₃ : Rel prog w Γ K ⟨loc, objs ++ [none]⟩ ps { s' with heap := h₁, toks := s'.toks } := by
    refine ⟨F', m', cm', fps', ?_⟩
    rw [show ({ (⟨loc, objs ++ [some (.ext (enE en it l xs i))]⟩ : St) with objs := (⟨loc, objs ++ [some (.ext (enE en it l xs i))]⟩ : St).objs.set objs.length none } : St) = ⟨loc, objs ++ [none]⟩ from by rw [hset]] at C₃
    exact C₃
  exact hX _ r₃
theorem forE_loop {kn xn : Str} {kp xp tp : Pos} {tk : Nat} {body : List Stmt} {QF : MF → St → Prop} (J : Nat → List (Str × MV) → List (Option MO) → Prop) (h0 : J 0 σ.loc σ.objs) (hnew : Γ.sh.heap.get? en = none ∧ Γ.sh.heap.get? it = none)
    (step : ∀ i x loc objs ex, xs[i]? = some x → objs.length = σ.objs.length → J i loc objs → WAL (fun σ' => WPs prog w Γ σ' body fun f σ₂ => f = .next ∧ ∃ objs', objs'.length = objs.length ∧ σ₂.objs = objs' ++ [some ex] ∧ J (i + 1) σ₂.loc objs') [.Name kn kp, .Name xn xp] [.int i, x] ⟨loc, objs ++ [some ex]⟩)
    (fin : ∀ loc objs, objs.length = σ.objs.length → J xs.length loc objs → QF .next ⟨loc, objs ++ [none]⟩) {R : Result → Shared → Prop} (hR : ∀ σ₂ s₂, QF .next σ₂ → Rel prog w Γ K σ₂ ps s₂ → R (.ok .next) s₂)
    (r : Rel prog w Γ K ⟨σ.loc, σ.objs ++ [some (.ext (enE en it l xs 0))]⟩ ps s) : codeAny (model prog w) Γ.A (.forLoop (.Tuple [.Name kn kp, .Name xn xp] tk tp) (.ref en) body [] Γ.env) R s := by
  refine codeAny_forLoop_any (fun n' s' => ∃ i loc objs, n' + i = xs.length + 1 ∧ i ≤ xs.length ∧ objs.length = σ.objs.length ∧ J i loc objs ∧ Rel prog w Γ K ⟨loc, objs ++ [some (.ext (enE en it l xs i))]⟩ ps s') (fun n' s' hI => ?_) (xs.length + 1) ⟨0, _, _, rfl, Nat.zero_le _, rfl, h0, r⟩
  obtain ⟨i, loc, objs, hni, hix, hlen, hJ, r'⟩ := hI
  by_cases hi : i < xs.length
  · refine forE_item r' hi (fun v s₁ h => h) fun a s₂ r₂ => ?_
    refine wpAny_mono (wa_tuple (step i xs[i] loc objs _ (List.getElem?_eq_getElem hi) hlen hJ) K ps (.ref a) _ (fun (_ : Unit) s₃ => wpAny (model prog w) Γ.A (execs body Γ.env) _ (fun _ _ => False) s₃) r₂ fun σ₃ s₃ h₃ r₃ => ?_) (fun _ s₃ h₃ => wpAny_mono h₃ (fun _ _ q => q) fun _ _ q => q.elim) fun _ _ q => q.elim
    refine h₃ K ps s₃ _ r₃ fun mf f σ₄ s₄ h₄ r₄ => ?_
    obtain ⟨rfl, objs', hl', ho', hJ'⟩ := h₄
    obtain ⟨rfl, r₄⟩ := r₄
    refine ⟨n' - 1, by omega, i + 1, σ₄.loc, objs', by omega, hi, by omega, hJ', ?_⟩
    rw [← ho']
    exact r₄
  · have hil : i = xs.length := by omega
    exact forE_end r' hil hnew fun s₂ r₂ => wpAny_execs_nil (hR _ _ (fin loc objs hlen (hil ▸ hJ)) r₂)
end
theorem wx_forE {kn xn : Str} {kp xp ip p tp : Pos} {tk : Nat} {e : Expr} {body : List Stmt} {xs : List MV} {gl : List (Str × MV)} (J : Nat → List (Str × MV) → List (Option MO) → Prop) (hgl : Γ.glob = gl) (hn : Lk "enumerate" (.obj (.type "enumerate")) gl) (hxs : ∀ x ∈ xs, Closed x)
    (he : WPe prog w Γ σ e fun mv σ₁ => mv = .list xs ∧ σ₁ = σ) (h0 : J 0 σ.loc σ.objs)
    (step : ∀ i x loc objs ex, xs[i]? = some x → objs.length = σ.objs.length → J i loc objs → WAL (fun σ' => WPs prog w Γ σ' body fun f σ₂ => f = .next ∧ ∃ objs', objs'.length = objs.length ∧ σ₂.objs = objs' ++ [some ex] ∧ J (i + 1) σ₂.loc objs') [.Name kn kp, .Name xn xp] [.int i, x] ⟨loc, objs ++ [some ex]⟩)
    (fin : ∀ loc objs, objs.length = σ.objs.length → J xs.length loc objs → QF .next ⟨loc, objs ++ [none]⟩)
    (hc : ∀ env, eval (.Call (.Name "enumerate" ip) [e] [] p) env = (do callWith p (← eval (.Name "enumerate" ip) env) [] (backTo p (starEach [e] env)) (backToKw p (keywordEach [] env))))
    (hst : ∀ env, starEach [e] env = (false, eval e env) :: starEach [] env)
    (hs : ∀ env x, foldedSetIterable (.Call (.Name "enumerate" ip) [e] [] p) env x = pure x) {pst : Pos} :
    WPx prog w Γ σ (.For (.Tuple [.Name kn kp, .Name xn xp] tk tp) (.Call (.Name "enumerate" ip) [e] [] p) body [] pst) QF := by
  intro K ps s R r hR
  refine wpAny_For ?_ (hs _)
  rw [hc]
  refine wpAny_bind (wp_globE (Q := fun mv σ' => mv = .obj (.type "enumerate") ∧ σ' = σ) hgl hn ⟨rfl, rfl⟩ K ps s _ r fun fv v σ₁ s₁ h₁ r₁ => ?_)
  obtain ⟨rfl, rfl⟩ := h₁
  obtain rfl := r₁.obj
  refine callWith_of (P := Kept (.type "enumerate")) (by rw [hst]; rfl) (fun h k => k _) (evalArgs_list (by rw [hst]; rfl) ?_)
  refine wpAny_items_cons (he K ps s₁ _ r₁.drop fun mv u σ₂ s₂ hq r₂ => wpAny_items_nil ?_) (hst _)
  obtain ⟨rfl, rfl⟩ := hq
  obtain ⟨F, m, cm, fps, C⟩ := r₂
  have hu : VR w F (rho fps) (.list xs) u := C.ps (.list xs, u) (.head _)
  obtain ⟨l, vs, n, rfl, hFl, hvs⟩ : ∃ l vs n, u = .ref l ∧ F l = some (listO vs n) ∧ VRs w F noρ xs vs := by
    cases hu with
    | list a _ vs n h1 h2 h3 => exact ⟨a, vs, n, rfl, h1, h2, fun i x v hx hv => hxs x (List.mem_of_getElem? hx) w F _ v (h3 i x v hx hv)⟩
  have C := C.drop
  refine ⟨kept_type, call_enumerate_1 (l := l) (items := vs.toArray) (n := n) (C.frz _ _ hFl) fun h' hE hI hsz hk => ?_⟩
  have new : ∀ a, s₂.heap.objs.size ≤ a → s₂.heap.get? a = none := fun a ha => by
    cases q : s₂.heap.get? a with
    | none => rfl
    | some o => exact absurd (Heap.lt_size q) (Nat.not_lt.mpr ha)
  have ne := C.newF (new (s₂.heap.objs.size + 1) (Nat.le_succ _))
  have ni := C.newF (new s₂.heap.objs.size (Nat.le_refl _))
  have C₁ := C.grow (h' := h') hk (Sub.refl F) (fun b o e => hk _ _ (C.frz b o e)) (fun _ _ e => .inl e) s₂.toks
  have C₂ := C₁.addExt (e := enE (s₂.heap.objs.size + 1) s₂.heap.objs.size l xs 0) (fp := [s₂.heap.objs.size + 1, s₂.heap.objs.size]) (by simp) (fun a ha => by simp at ha; rcases ha with rfl | rfl; exact ne.1; exact ni.1) (fun a ha => by simp at ha; rcases ha with rfl | rfl; exact ne.2.1; exact ni.2.1)
    (fun a ha => by simp at ha; rcases ha with rfl | rfl; exact ne.2.2.1; exact ni.2.2.1) (fun a ha => by
      simp only [List.mem_cons, List.not_mem_nil, or_false] at ha
      obtain ⟨o, i1, _⟩ := hI
      rcases ha with rfl | rfl
      · exact ⟨_, hE⟩
      · exact ⟨_, i1⟩) (show _ ∧ _ from ⟨rfl, Nat.succ_ne_self _, ⟨_, hE⟩, hI, vs, n, hFl, hvs⟩)
  refine wpAny_pyIter_enum hE ?_
  exact forE_loop J h0 ⟨ne.2.2.2, ni.2.2.2⟩ step fin (fun σ₂ s₂ h r => hR .next .next σ₂ s₂ h ⟨rfl, r⟩) ⟨F, m, cm, _, C₂⟩

/-- the signs of a str, each a str -/
noncomputable def strs1 (x : Str) : List Str := x.cps.toList.map fun c => ⟨#[c]⟩

local macro_rules | `(tactic| tm_at "lk") => `(tactic| first | exact Lk.here _ | (apply Lk.there; tm_at "lk"))
local macro_rules | `(tactic| tm_at "t0") => `(tactic| k_dflt (intro _; rfl))
local macro_rules | `(tactic| tm_at "t1") => `(tactic| k_dflt (intro _ _; rfl))
local macro_rules | `(tactic| tm_at "t2") => `(tactic| k_dflt exact rfl)
local macro_rules | `(tactic| tm_at "t3") => `(tactic| ((try dsimp only); tm_at "lk"))
local macro_rules | `(tactic| tm_at "t4") => `(tactic| assumption)
local macro_rules | `(tactic| tm_at "t5") => `(tactic| k_dflt exact Nat.le_of_ble_eq_true rfl)
local macro_rules | `(tactic| tm_at "x1") => do
  let mut arms := #[]
  for e in "then_next,_ ws_cons,_ ws_nil,_ wp_name,t3,t2,_ wp_globE,t4,lk,_ wp_int,_ wp_str,_ wp_none,_ wp_bool,_ wp_binop,_ wp_tuple,_ wp_list,_ wp_ifexp,_ wp_slice,_,t1 wp_item,t1,_ wp_method,_,t1,t0 wp_call,_,t1,t0 wl_cons,_,t0 wl_nil,_ wo_none,_ wo_some,_ int_intro,_ obj_intro,_ none_intro,_ wx_assign,_,t0 wx_expr,_,t0 wx_aug,t3,t2,_ wx_if,_ wx_return,_ wx_continue,_ wp_compare,_,t2 wt_compare,_,t2 wt_not,_ wall_and_cons,_ wall_or_cons,_ wall_and_nil,_ wall_or_nil,_ w2_add,_ w2_iadd,_ w2_isub,_ turn_next,_ And.intro,t5,_ w2_lt,_ w2_gt,_ w2_eq,_ w2_ne,_ w2_eqs,_ w2_inTup,_ w2_nes,_ wb_bool,_ putq_here,_ putq_there,_ tup2_intro,_ tup_intro,_ wal_cons,_ wal_nil,_".splitOn " " do
    let mut hs : Array Lean.Term := #[]
    let mut tl := #[]
    for x in (e.splitOn ",").tail do
      if x == "_" then hs := hs.push (← `(?_))
      else
        hs := hs.push (← `(?$(Lean.mkIdent x.toName)))
        tl := tl.push (← `(tactic| case $(Lean.mkIdent x.toName):ident => tm_at $(Lean.quote x):str))
    let t ← `($(Lean.mkIdent ((e.splitOn ",").headD "").toName) $hs*)
    arms := arms.push (← if tl.isEmpty then `(Lean.Parser.Tactic.tacticSeq| refine $t) else `(Lean.Parser.Tactic.tacticSeq| (refine' $t; $tl;*)))
  `(tactic| with_reducible first $[| $arms:tacticSeq]*)
local macro_rules | `(tactic| tm_at "x") => `(tactic| repeat' (tm_at "x1"))
theorem swapped_of {ts : List Expr} {v : Expr} {env : Env} {sc : Scope} {r : Option (List Str)} (h : env.scope = sc) (e : swappedStores ts v { scope := sc, locals := 0, globals := 0, cells := [] } = pure r) : swappedStores ts v env = pure r := by
  subst h; rw [← e]; rfl

/-- the words of the text -/
noncomputable def ansW (p q : Int) : Nat → Int → Int → Int → Int → Str → Option Str
  | 0, _, _, _, _, _ => none
  | n + 1, a, b, c, d, acc => if p * (b + d) != q * (a + c) then (if decide (p * (b + d) < q * (a + c)) then ansW p q n a b (a + c) (b + d) (acc ++ "<") else ansW p q n (a + c) (b + d) c d (acc ++ ">")) else some acc

noncomputable abbrev locA (p q : Int) (acc : Str) (a b c d : Int) : St := ⟨[("p", .int p), ("q", .int q), ("answers", .str acc), ("a", .int a), ("b", .int b), ("c", .int c), ("d", .int d)], []⟩

theorem ans_loop {w : World} {Γ : Cx} (hsc : Γ.env.scope = fScope bAnswers) {p q : Int} (hp : 1 ≤ p ∧ p ≤ 20) (hq : 1 ≤ q ∧ q ≤ 20) {t : Expr} {body : List Stmt} {orelse : List Stmt} {ps : Pos} (hb : (fBody bAnswers)[2]? = some (.While t body orelse ps)) {QF : MF → St → Prop} {r : Str} :
    ∀ (n : Nat) (a b c d : Int) (acc : Str), acc.length + n ≤ 1000 → ansW p q n a b c d acc = some r → (∀ a b c d, QF .next (locA p q r a b c d)) → WPw pr w Γ t body QF n (locA p q acc a b c d) := by
  cases hb
  intro n
  have mul : ∀ x y : Int, 1 ≤ x ∧ x ≤ 20 → IntMulOk x y := fun x y hx => .of_left (intBits_le_64 (by omega) (by omega))
  have lt : ∀ (acc : Str) (c : Str) (n : Nat), c.length = 1 → acc.length + (n + 1) ≤ 1000 → acc.length + c.length ≤ sizeLine ∧ (acc ++ c).length + n ≤ 1000 := fun acc c n h1 h2 => by
    rw [Str.length_append, h1]; exact ⟨by show _ ≤ 16777216; omega, by omega⟩
  induction n with
  | zero => intro a b c d acc _ h; simp [ansW] at h
  | succ n ih =>
    intro a b c d acc hn h hQ
    show WPt _ _ _ _ _ _
    tm_at "x"
    refine w2_mul (mul _ _ hp) ?_
    tm_at "x"
    refine w2_mul (mul _ _ hq) ?_
    tm_at "x"
    unfold ansW at h
    refine ⟨fun hc => ?_, fun hc => ?_⟩
    · rw [if_pos hc] at h
      tm_at "x"
      refine w2_mul (mul _ _ hp) ?_
      tm_at "x"
      refine w2_mul (mul _ _ hq) ?_
      tm_at "x"
      refine ⟨fun hc2 => ?_, fun hc2 => ?_⟩
      · rw [if_pos hc2] at h
        tm_at "x"
        refine w2_icat (lt _ _ _ (by decide +kernel) hn).1 ?_
        tm_at "x"
        refine' wx_swap2 "c" "d" ?_ ?hs ?hw
        case hs => intro _; rfl
        case hw => exact swapped_of hsc rfl
        tm_at "x"
        exact ih _ _ _ _ _ (lt _ _ _ (by decide +kernel) hn).2 h hQ
      · rw [if_neg (by simp [hc2])] at h
        tm_at "x"
        refine w2_icat (lt _ _ _ (by decide +kernel) hn).1 ?_
        tm_at "x"
        refine' wx_swap2 "a" "b" ?_ ?hs ?hw
        case hs => intro _; rfl
        case hw => exact swapped_of hsc rfl
        tm_at "x"
        exact ih _ _ _ _ _ (lt _ _ _ (by decide +kernel) hn).2 h hQ
    · rw [if_neg (by simp [hc])] at h
      cases h
      exact hQ _ _ _ _

theorem sA : ScopeOk (fScope bAnswers) ((["p", "q"] : List Str) ++ (["answers", "a", "b", "c", "d"] : List Str)) := ⟨rfl, by decide +kernel, by decide +kernel, by decide +kernel⟩
theorem bA : ∀ doc pm cdv ct vs, vs.length = (["p", "q"] : List Str).length → bindArgs (fnOf (fName bAnswers) "_law_answers" (fArgs bAnswers) (fBody bAnswers) (fScope bAnswers) .none .none doc pm none cdv ct) ⟨vs, []⟩ = pure ((["p", "q"] : List Str).zip vs) := by intro doc pm cdv ct vs h; match vs, h with | [v, u], _ => rfl
theorem pf_answers {w : World} {hB : Heap} {mg mb : Str → Option Value} (T : TopF hB mg mb) {f : Addr} (hf : IsFn hB f "_law_answers" bAnswers) {p q : Int} (hp : 1 ≤ p ∧ p ≤ 20) (hq : 1 ≤ q ∧ q ≤ 20) {r : Str} (hr : ansW p q 100 0 1 1 0 Str.empty = some r) :
    PureFn pr w 1 hB (.ref f) [.int p, .int q] (fun v => v = .str r) := by
  refine PureFn.of_stmt T hf ["p", "q"] ["answers", "a", "b", "c", "d"] [] bA rfl sA nofun rfl rfl ?_
  intro Γ hΓ
  show WPs pr w Γ ⟨[("p", .int p), ("q", .int q), ("answers", .undef), ("a", .undef), ("b", .undef), ("c", .undef), ("d", .undef)], []⟩ _ _
  refine ws_cons ?_
  tm_at "x"
  refine' wx_assign_tup ?_ ?hs ?hw
  case hs => intro _; rfl
  case hw => exact swapped_of hΓ.1 rfl
  tm_at "x"
  refine wx_while 100 (ans_loop hΓ.1 hp hq (t := _) (body := _) (orelse := []) (ps := _) rfl 100 0 1 1 0 Str.empty (by decide +kernel) hr fun a b c d => ?_)
  tm_at "x"
  exact ⟨.str, rfl⟩

noncomputable def tokMV : List (Str × MV) := tokTab.map fun e => (e.1, .int e.2)
noncomputable def tokGet (x : Str) : Option Int := (tokTab.find? fun e => decide (e.1 = x)).map (·.2)
theorem mvAt_map (x : Str) : ∀ l : List (Str × Int), mvAt (l.map fun e => (e.1, MV.int e.2)) x = ((l.find? fun e => decide (e.1 = x)).map (·.2)).map .int
  | [] => rfl
  | e :: l => by
    have ih := mvAt_map x l
    unfold mvAt at ih ⊢
    rw [List.map_cons, List.find?_cons, List.find?_cons]
    by_cases q : e.1 = x
    · simp [q]
    · simp only [q, decide_false]; exact ih
theorem mvAt_tok (x : Str) : mvAt tokMV x = (tokGet x).map .int := mvAt_map x tokTab
theorem tok_getD (x : Str) (d : Int) : (mvAt tokMV x).getD (.int d) = .int ((tokGet x).getD d) := by rw [mvAt_tok]; cases tokGet x <;> rfl
noncomputable def cut (x : Str) (a n : Nat) : Str := Txt.slice x (some a) (some (a + n))
noncomputable def sizeAt (x : Str) (a : Nat) : Nat := if (tokGet (cut x a 3)).isSome then 3 else if (tokGet (cut x a 2)).isSome then 2 else 1
noncomputable def symL (x : Str) : Nat → Nat → List Int → Option (List Int)
  | 0, _, _ => none
  | n + 1, a, acc => if a < x.length then
      match x.cps[a]? with
      | none => none
      | some c =>
        if tokGet ⟨#[c]⟩ == some 19 && (["&lt;", "&gt;"] : List Str).any (· == cut x a 4) then
          match x.cps[a + 1]? with
          | none => none
          | some d => symL x n (a + 4) (acc ++ [if ((⟨#[d]⟩ : Str) == "l") = true then 255 else 254])
        else symL x n (a + sizeAt x a) (acc ++ [(tokGet (cut x a (sizeAt x a))).getD 256])
    else some acc
noncomputable abbrev glS : List (Str × MV) := [("len", .obj (.builtin "len")), ("EXACT_TOKEN_TYPES", .dictS tokMV)]
noncomputable abbrev locS (x : Str) (a : Int) (z : MV) : List (Str × MV) := [("word", .str x), ("symbols", .mu 0), ("at", .int a), ("size", z)]
theorem sym_loop {w : World} {Γ : Cx} (hgl : Γ.glob = glS) {x : Str} (hx : x.length ≤ 1000) {t : Expr} {body orelse : List Stmt} {ps : Pos} (hb : (fBody bSymbols)[2]? = some (.While t body orelse ps)) {QF : MF → St → Prop} {r : List Int} :
    ∀ (n : Nat) (a : Nat) (acc : List Int) (z : MV), acc.length + n ≤ 2000 → symL x n a acc = some r → (∀ a z, QF .next ⟨locS x a z, [some (.lst (r.map .int))]⟩) → WPw pr w Γ t body QF n ⟨locS x a z, [some (.lst (acc.map .int))]⟩ := by
  cases hb
  intro n
  induction n with
  | zero => intro a acc z _ h; simp [symL] at h
  | succ n ih =>
    intro a acc z hn h hQ
    show WPt _ _ _ _ _ _
    have hx' : x.length ≤ sizeLine := Nat.le_trans hx (by decide)
    have sub : ∀ k l, (Txt.slice x k l).length ≤ sizeLine := fun k l => Nat.le_trans (Txt.slice_le x k l) hx'
    tm_at "x"
    refine wc_lenS hx' ?_
    tm_at "x"
    unfold symL at h
    refine ⟨fun hc => ?_, fun hc => ?_⟩
    · have hlt : a < x.length := by simpa using hc
      rw [if_pos hlt] at h
      have hcg : x.cps[a]? = some x.cps[a] := Array.getElem?_eq_getElem hlt
      rw [hcg] at h
      generalize x.cps[a] = c at hcg h
      dsimp only at h
      tm_at "x"
      refine wt_and2 (tokGet ⟨#[c]⟩ == some 19) ((["&lt;", "&gt;"] : List Str).any (· == cut x a 4)) ?_ ?_
      · tm_at "x"
        refine wm_dictS PySem.F.slot_dict_get PySem.F.type_dict_get ?_
        tm_at "x"
        refine it_str (by omega) (by omega) (c := c) (by simpa using hcg) ?_
        tm_at "x"
        refine wc_getS ?_
        tm_at "x"
        refine w2_eqO (o := tokGet ⟨#[c]⟩) (by rw [mvAt_tok]) ?_
        tm_at "x"
        refine ⟨rfl, rfl, fun _ => ?_⟩
        tm_at "x"
        refine sl_str hx' ?_
        tm_at "x"
        refine w2_inTup (ys := ["&lt;", "&gt;"]) ?_
        tm_at "x"
        exact ⟨rfl, rfl⟩
      refine ⟨fun hb => ?_, fun hb => ?_⟩
      · rw [if_pos hb] at h
        have hb2 : (["&lt;", "&gt;"] : List Str).any (· == cut x a 4) = true := (Bool.and_eq_true_iff.mp hb).2
        cases hd : x.cps[a + 1]? with
        | none => rw [hd] at h; cases h
        | some d =>
          rw [hd] at h
          dsimp only at h
          have hlt1 : a + 1 < x.length := (Array.getElem?_eq_some_iff.mp hd).1
          tm_at "x"
          refine wm_mu (xs := acc.map .int) rfl PySem.F.slot_list_append PySem.F.type_list_append ?_
          tm_at "x"
          refine it_str (c := d) (by omega) (by omega) (by rw [show ((a : Int) + 1).toNat = a + 1 by omega]; exact hd) ?_
          tm_at "x"
          refine ⟨fun hl => ?_, fun hl => ?_⟩
          all_goals
            rw [hl] at h
            tm_at "x"
            refine wc_append (xs := acc.map .int) rfl (by rw [List.length_map]; show _ ≤ 16777216; omega) ?_
            tm_at "x"
          · have := ih (a + 4) (acc ++ [255]) z (by simp; omega) h hQ
            rw [List.map_append] at this
            exact this
          · have := ih (a + 4) (acc ++ [254]) z (by simp; omega) h hQ
            rw [List.map_append] at this
            exact this
      · rw [if_neg (by rw [hb]; simp)] at h
        tm_at "x"
        refine wx_whileI (fun k σ' => 1 ≤ k ∧ k ≤ 3 ∧ (∀ i, k < i → i ≤ 3 → (tokGet (cut x a i)).isSome = false) ∧ σ' = ⟨locS x a (.int k), [some (.lst (acc.map .int))]⟩) 3 ⟨by decide, by decide, fun i h1 h2 => by omega, rfl⟩ ?_
        rintro k _ ⟨h1, h3, hno, rfl⟩
        refine wt_and2 (decide ((1 : Int) < (k : Int))) (!(mvAt tokMV (cut x a k)).isSome) ?_ ?_
        · tm_at "x"
          refine ⟨rfl, rfl, fun _ => ?_⟩
          tm_at "x"
          refine sl_str hx' ?_
          tm_at "x"
          refine w2_ninS ?_
          tm_at "x"
          exact ⟨rfl, rfl⟩
        refine ⟨fun hb => ?_, fun hb => ?_⟩
        · have hk : 1 < k ∧ (tokGet (cut x a k)).isSome = false := by
            rw [mvAt_tok] at hb
            have hb' : (1 : Int) < (k : Int) ∧ tokGet (cut x a k) = none := by simpa using hb
            exact ⟨by omega, by rw [hb'.2]; rfl⟩
          tm_at "x"
          refine ⟨k - 1, by omega, by omega, by omega, fun i g1 g2 => ?_, ?_⟩
          · by_cases q : i = k
            · subst q; exact hk.2
            · exact hno i (by omega) g2
          · have e : (k : Int) - 1 = ((k - 1 : Nat) : Int) := by omega
            rw [e]
        · have hs : sizeAt x a = k := by
            have hk : k ≤ 1 ∨ (tokGet (cut x a k)).isSome = true := by
              rw [mvAt_tok] at hb
              by_cases q : k ≤ 1
              · exact .inl q
              · right
                have : decide ((1 : Int) < (k : Int)) = true := decide_eq_true (by omega)
                rw [this, Bool.true_and] at hb
                simpa using hb
            unfold sizeAt
            match k, h1, h3 with
            | 1, _, _ => rw [hno 2 (by decide) (by decide), hno 3 (by decide) (by decide)]; rfl
            | 2, _, _ => rw [hno 3 (by decide) (by decide), hk.resolve_left (by decide)]; rfl
            | 3, _, _ => rw [hk.resolve_left (by decide)]; rfl
          rw [hs] at h
          tm_at "x"
          refine wm_mu (xs := acc.map .int) rfl PySem.F.slot_list_append PySem.F.type_list_append ?_
          tm_at "x"
          refine wm_dictS PySem.F.slot_dict_get PySem.F.type_dict_get ?_
          tm_at "x"
          refine sl_str hx' ?_
          tm_at "x"
          refine wc_getSd ?_
          rw [show Txt.slice x (some (a : Int)) (some ((a : Int) + (k : Int))) = cut x a k from rfl, tok_getD]
          tm_at "x"
          refine wc_append (xs := acc.map .int) rfl (by rw [List.length_map]; show _ ≤ 16777216; omega) ?_
          tm_at "x"
          have := ih (a + k) (acc ++ [(tokGet (cut x a k)).getD 256]) (.int k) (by simp; omega) h hQ
          rw [List.map_append] at this
          exact this
    · have hlt : ¬ a < x.length := by simpa using hc
      rw [if_neg hlt] at h
      cases h
      exact hQ _ _

theorem IsD.mapI (ns : List Int) : IsD (.list (ns.map .int)) (.list (ns.map .int)) := .list _ _ (by simp) fun i x d a b => by
  rw [List.getElem?_map] at a b
  cases h : ns[i]? with
  | none => rw [h] at a; cases a
  | some n => rw [h] at a b; cases a; cases b; exact .int n
theorem lay_intsA : ∀ ns : List Int, PyData.canLayAll0 (ns.map .int) = true
  | [] => rfl
  | n :: ns => by
    show (PyData.canLay0 (.int n) && PyData.canLayAll0 (ns.map .int)) = true
    rw [lay_intsA ns]; rfl
theorem lay_ints (ns : List Int) : PyData.canLay0 (.list (ns.map .int)) = true := lay_intsA ns
theorem depth_intsA : ∀ ns : List Int, PyData.depthAll (ns.map .int) ≤ 1
  | [] => by decide
  | n :: ns => by
    have := depth_intsA ns
    simp only [List.map_cons, PyData.depthAll, PyData.depth]
    omega
theorem depth_ints (ns : List Int) : PyData.depth (.list (ns.map .int)) ≤ 2 := by
  have := depth_intsA ns
  simp only [PyData.depth]; omega
theorem eqv_nil (ns : List Int) : PyData.eqv (.list (ns.map .int)) (.list []) = ns.isEmpty := by
  cases ns <;> rfl
theorem sS : ScopeOk (fScope bSymbols) ((["word"] : List Str) ++ (["symbols", "at", "size"] : List Str)) := ⟨rfl, by decide +kernel, by decide +kernel, by decide +kernel⟩
theorem bS : ∀ doc pm cdv ct vs, vs.length = (["word"] : List Str).length → bindArgs (fnOf (fName bSymbols) "_law_symbols" (fArgs bSymbols) (fBody bSymbols) (fScope bSymbols) .none .none doc pm none cdv ct) ⟨vs, []⟩ = pure ((["word"] : List Str).zip vs) := by intro doc pm cdv ct vs h; match vs, h with | [v], _ => rfl
noncomputable def symS (x : Str) : Option (List Int) := (symL x (x.length + 1) 0 []).map fun r => if r.isEmpty then [0] else r
theorem pf_symbols {w : World} {hB : Heap} {mg mb : Str → Option Value} (T : TopF hB mg mb) {f : Addr} (hf : IsFn hB f "_law_symbols" bSymbols) (hg : ∀ p ∈ glS, GlobAt w hB mg mb (fScope bSymbols) p) {x : Str} (hx : x.length ≤ 1000) {r : List Int} (hr : symS x = some r) :
    PureFn pr w 1 hB (.ref f) [.str x] (fun v => v = .list (r.map .int)) := by
  refine PureFn.of_stmt T hf ["word"] ["symbols", "at", "size"] glS bS rfl sS hg rfl rfl ?_
  intro Γ hΓ
  have hgl := hΓ.2.2.1
  unfold symS at hr
  cases hs : symL x (x.length + 1) 0 [] with
  | none => rw [hs] at hr; cases hr
  | some r' =>
    rw [hs] at hr
    dsimp only [Option.map_some] at hr
    show WPs pr w Γ ⟨[("word", .str x), ("symbols", .undef), ("at", .undef), ("size", .undef)], []⟩ _ _
    refine ws_cons (wx_new ?_)
    tm_at "x"
    refine wx_while (x.length + 1) (sym_loop hgl hx (t := _) (body := _) (orelse := []) rfl (x.length + 1) 0 [] .undef (by simp; omega) hs fun a z => ?_)
    refine then_next (ws_freeze (x := "symbols") (k := 0) (xs := r'.map .int) (by tm_at "lk") rfl ?_)
    tm_at "x"
    refine w2_neD (dx := .list (r'.map .int)) (dy := .list []) (IsD.mapI r') (IsD.list [] [] rfl (fun i x d h => by simp at h)) (lay_ints r') rfl (Nat.le_trans (depth_ints r') (by decide)) ?_
    rw [eqv_nil]
    tm_at "x"
    have cl : ∀ l : List Int, Closed (.list (l.map .int)) := fun l => Closed.list fun y hy => by obtain ⟨i, _, rfl⟩ := List.mem_map.mp hy; exact .int
    refine ⟨fun hc => ?_, fun hc => ?_⟩
    · have hne : r'.isEmpty = false := by simpa using hc
      rw [hne] at hr; cases hr
      tm_at "x"
      exact ⟨cl _, rfl⟩
    · have hne : r'.isEmpty = true := by simpa using hc
      rw [hne] at hr; cases hr
      tm_at "x"
      exact ⟨cl [0], rfl⟩


local macro_rules | `(tactic| tm_at "esc") => `(tactic| (refine ws_cons ?_; refine' wx_esc ?a ?b ?_ ?c ?d; (case a => decide +kernel); (case b => assumption); (case c => intro _; rfl); (case d => intro _; rfl); refine then_next ?_))
noncomputable def esc0 : List (Str × Str) := [(("&" : Str), ("&amp;" : Str)), (("<" : Str), ("&lt;" : Str)), ((">" : Str), ("&gt;" : Str))]
theorem sE0 : ScopeOk (fScope bEsc0) ((["text"] : List Str) ++ ([] : List Str)) := ⟨rfl, by decide +kernel, by decide +kernel, by decide +kernel⟩
theorem bE0 (qual : Str) : ∀ doc pm cdv ct vs, vs.length = (["text"] : List Str).length → bindArgs (fnOf (fName bEsc0) qual (fArgs bEsc0) (fBody bEsc0) (fScope bEsc0) .none .none doc pm none cdv ct) ⟨vs, []⟩ = pure ((["text"] : List Str).zip vs) := by intro doc pm cdv ct vs h; match vs, h with | [v], _ => rfl
theorem pf_esc0 {w : World} {hB : Heap} {mg mb : Str → Option Value} (T : TopF hB mg mb) {f : Addr} {qual : Str} (hf : IsFn hB f qual bEsc0) {x : Str} (hx : fitsS x esc0) : PureFn pr w 1 hB (.ref f) [.str x] (fun v => v = .str (escS x esc0)) := by
  refine PureFn.of_stmt T hf ["text"] [] [] (bE0 qual) rfl sE0 nofun rfl rfl ?_
  intro Γ hΓ
  show WPs pr w Γ ⟨[("text", .str x)], []⟩ _ _
  obtain ⟨f0, f1, f2, _⟩ := hx
  refine ws_cons (wx_try ?_)
  tm_at "esc"
  tm_at "esc"
  tm_at "esc"
  tm_at "x"
  exact ⟨.str, rfl⟩
noncomputable def esc1 : List (Str × Str) := [(("&" : Str), ("&amp;" : Str)), (("<" : Str), ("&lt;" : Str)), ((">" : Str), ("&gt;" : Str)), (("\"" : Str), ("&quot;" : Str)), (("\r" : Str), ("&#13;" : Str)), (("\n" : Str), ("&#10;" : Str)), (("\t" : Str), ("&#09;" : Str))]
theorem sE1 : ScopeOk (fScope bEsc1) ((["text"] : List Str) ++ ([] : List Str)) := ⟨rfl, by decide +kernel, by decide +kernel, by decide +kernel⟩
theorem bE1 (qual : Str) : ∀ doc pm cdv ct vs, vs.length = (["text"] : List Str).length → bindArgs (fnOf (fName bEsc1) qual (fArgs bEsc1) (fBody bEsc1) (fScope bEsc1) .none .none doc pm none cdv ct) ⟨vs, []⟩ = pure ((["text"] : List Str).zip vs) := by intro doc pm cdv ct vs h; match vs, h with | [v], _ => rfl
theorem pf_esc1 {w : World} {hB : Heap} {mg mb : Str → Option Value} (T : TopF hB mg mb) {f : Addr} {qual : Str} (hf : IsFn hB f qual bEsc1) {x : Str} (hx : fitsS x esc1) : PureFn pr w 1 hB (.ref f) [.str x] (fun v => v = .str (escS x esc1)) := by
  refine PureFn.of_stmt T hf ["text"] [] [] (bE1 qual) rfl sE1 nofun rfl rfl ?_
  intro Γ hΓ
  show WPs pr w Γ ⟨[("text", .str x)], []⟩ _ _
  obtain ⟨f0, f1, f2, f3, f4, f5, f6, _⟩ := hx
  refine ws_cons (wx_try ?_)
  tm_at "esc"
  tm_at "esc"
  tm_at "esc"
  tm_at "esc"
  tm_at "esc"
  tm_at "esc"
  tm_at "esc"
  tm_at "x"
  exact ⟨.str, rfl⟩
noncomputable def esc2 : List (Str × Str) := [(("&" : Str), ("&amp;" : Str)), ((">" : Str), ("&gt;" : Str)), (("\"" : Str), ("&quot;" : Str))]
theorem sE2 : ScopeOk (fScope bEsc2) ((["text"] : List Str) ++ ([] : List Str)) := ⟨rfl, by decide +kernel, by decide +kernel, by decide +kernel⟩
theorem bE2 (qual : Str) : ∀ doc pm cdv ct vs, vs.length = (["text"] : List Str).length → bindArgs (fnOf (fName bEsc2) qual (fArgs bEsc2) (fBody bEsc2) (fScope bEsc2) .none .none doc pm none cdv ct) ⟨vs, []⟩ = pure ((["text"] : List Str).zip vs) := by intro doc pm cdv ct vs h; match vs, h with | [v], _ => rfl
theorem pf_esc2 {w : World} {hB : Heap} {mg mb : Str → Option Value} (T : TopF hB mg mb) {f : Addr} {qual : Str} (hf : IsFn hB f qual bEsc2) {x : Str} (hx : fitsS x esc2) : PureFn pr w 1 hB (.ref f) [.str x] (fun v => v = .str (escS x esc2)) := by
  refine PureFn.of_stmt T hf ["text"] [] [] (bE2 qual) rfl sE2 nofun rfl rfl ?_
  intro Γ hΓ
  show WPs pr w Γ ⟨[("text", .str x)], []⟩ _ _
  obtain ⟨f0, f1, f2, _⟩ := hx
  refine ws_cons (wx_try ?_)
  tm_at "esc"
  tm_at "esc"
  tm_at "esc"
  tm_at "x"
  exact ⟨.str, rfl⟩
noncomputable def esc3 : List (Str × Str) := [(("&" : Str), ("&amp;" : Str)), (("<" : Str), ("&lt;" : Str)), ((">" : Str), ("&gt;" : Str)), (("\r" : Str), ("&#xD;" : Str))]
theorem sE3 : ScopeOk (fScope bEsc3) ((["text"] : List Str) ++ ([] : List Str)) := ⟨rfl, by decide +kernel, by decide +kernel, by decide +kernel⟩
theorem bE3 (qual : Str) : ∀ doc pm cdv ct vs, vs.length = (["text"] : List Str).length → bindArgs (fnOf (fName bEsc3) qual (fArgs bEsc3) (fBody bEsc3) (fScope bEsc3) .none .none doc pm none cdv ct) ⟨vs, []⟩ = pure ((["text"] : List Str).zip vs) := by intro doc pm cdv ct vs h; match vs, h with | [v], _ => rfl
theorem pf_esc3 {w : World} {hB : Heap} {mg mb : Str → Option Value} (T : TopF hB mg mb) {f : Addr} {qual : Str} (hf : IsFn hB f qual bEsc3) {x : Str} (hx : fitsS x esc3) : PureFn pr w 1 hB (.ref f) [.str x] (fun v => v = .str (escS x esc3)) := by
  refine PureFn.of_stmt T hf ["text"] [] [] (bE3 qual) rfl sE3 nofun rfl rfl ?_
  intro Γ hΓ
  show WPs pr w Γ ⟨[("text", .str x)], []⟩ _ _
  obtain ⟨f0, f1, f2, f3, _⟩ := hx
  refine ws_cons (wx_try ?_)
  tm_at "esc"
  tm_at "esc"
  tm_at "esc"
  tm_at "esc"
  tm_at "x"
  exact ⟨.str, rfl⟩
noncomputable def esc4 : List (Str × Str) := [(("&" : Str), ("&amp;" : Str)), (("<" : Str), ("&lt;" : Str)), (("\"" : Str), ("&quot;" : Str)), (("\t" : Str), ("&#x9;" : Str)), (("\n" : Str), ("&#xA;" : Str)), (("\r" : Str), ("&#xD;" : Str))]
theorem sE4 : ScopeOk (fScope bEsc4) ((["text"] : List Str) ++ ([] : List Str)) := ⟨rfl, by decide +kernel, by decide +kernel, by decide +kernel⟩
theorem bE4 (qual : Str) : ∀ doc pm cdv ct vs, vs.length = (["text"] : List Str).length → bindArgs (fnOf (fName bEsc4) qual (fArgs bEsc4) (fBody bEsc4) (fScope bEsc4) .none .none doc pm none cdv ct) ⟨vs, []⟩ = pure ((["text"] : List Str).zip vs) := by intro doc pm cdv ct vs h; match vs, h with | [v], _ => rfl
theorem pf_esc4 {w : World} {hB : Heap} {mg mb : Str → Option Value} (T : TopF hB mg mb) {f : Addr} {qual : Str} (hf : IsFn hB f qual bEsc4) {x : Str} (hx : fitsS x esc4) : PureFn pr w 1 hB (.ref f) [.str x] (fun v => v = .str (escS x esc4)) := by
  refine PureFn.of_stmt T hf ["text"] [] [] (bE4 qual) rfl sE4 nofun rfl rfl ?_
  intro Γ hΓ
  show WPs pr w Γ ⟨[("text", .str x)], []⟩ _ _
  obtain ⟨f0, f1, f2, f3, f4, f5, _⟩ := hx
  refine ws_cons (wx_try ?_)
  tm_at "esc"
  tm_at "esc"
  tm_at "esc"
  tm_at "esc"
  tm_at "esc"
  tm_at "esc"
  tm_at "x"
  exact ⟨.str, rfl⟩


noncomputable def escT : Nat → List (Str × Str)
  | 0 => esc0 | 1 => esc1 | 2 => esc2 | 3 => esc3 | _ => esc4
theorem sW : ScopeOk (fScope bWritten) ((["text", "hand"] : List Str) ++ (["hands"] : List Str)) := ⟨rfl, by decide +kernel, by decide +kernel, by decide +kernel⟩
theorem bW : ∀ doc pm cdv ct vs, vs.length = (["text", "hand"] : List Str).length → bindArgs (fnOf (fName bWritten) "_law_written" (fArgs bWritten) (fBody bWritten) (fScope bWritten) .none .none doc pm none cdv ct) ⟨vs, []⟩ = pure ((["text", "hand"] : List Str).zip vs) := by intro doc pm cdv ct vs h; match vs, h with | [v, u], _ => rfl
noncomputable abbrev glW (e : Nat → Addr) : List (Str × MV) := [("_escape_cdata", .obj (.ref (e 0))), ("_escape_attrib", .obj (.ref (e 1))), ("_escape_attrib_html", .obj (.ref (e 2))), ("_escape_cdata_c14n", .obj (.ref (e 3))), ("_escape_attrib_c14n", .obj (.ref (e 4)))]
structure EscAt (hB : Heap) (e : Nat → Addr) : Prop where
  a0 : IsFn hB (e 0) "_escape_cdata" bEsc0
  a1 : IsFn hB (e 1) "_escape_attrib" bEsc1
  a2 : IsFn hB (e 2) "_escape_attrib_html" bEsc2
  a3 : IsFn hB (e 3) "_escape_cdata_c14n" bEsc3
  a4 : IsFn hB (e 4) "_escape_attrib_c14n" bEsc4
theorem EscAt.pick {w : World} {hB : Heap} {mg mb : Str → Option Value} (T : TopF hB mg mb) {e : Nat → Addr} (H : EscAt hB e) {x : Str} : ∀ h, h < 5 → fitsS x (escT h) → ∃ q st, IsFn hB (e h) q st ∧ PureFn pr w 1 hB (.ref (e h)) [.str x] (fun v => v = .str (escS x (escT h)))
  | 0, _, hx => ⟨_, _, H.a0, pf_esc0 T H.a0 hx⟩
  | 1, _, hx => ⟨_, _, H.a1, pf_esc1 T H.a1 hx⟩
  | 2, _, hx => ⟨_, _, H.a2, pf_esc2 T H.a2 hx⟩
  | 3, _, hx => ⟨_, _, H.a3, pf_esc3 T H.a3 hx⟩
  | 4, _, hx => ⟨_, _, H.a4, pf_esc4 T H.a4 hx⟩
theorem esc_get (e : Nat → Addr) : ∀ h, h < 5 → ([.obj (.ref (e 0)), .obj (.ref (e 1)), .obj (.ref (e 2)), .obj (.ref (e 3)), .obj (.ref (e 4))] : List MV)[h]? = some (.obj (.ref (e h)))
  | 0, _ => rfl
  | 1, _ => rfl
  | 2, _ => rfl
  | 3, _ => rfl
  | 4, _ => rfl
theorem pf_written {w : World} {hB : Heap} {mg mb : Str → Option Value} (T : TopF hB mg mb) {f : Addr} {e : Nat → Addr} (hf : IsFn hB f "_law_written" bWritten) (H : EscAt hB e) (hg : ∀ p ∈ glW e, GlobAt w hB mg mb (fScope bWritten) p) {x : Str} {h : Nat} (hh : h < 5) (hx : fitsS x (escT h)) :
    PureFn pr w 2 hB (.ref f) [.str x, .int h] (fun v => v = .str (escS x (escT h))) := by
  refine PureFn.of_stmt T hf ["text", "hand"] ["hands"] (glW e) bW rfl sW hg rfl rfl ?_
  intro Γ hΓ
  have hgl := hΓ.2.2.1
  obtain ⟨q, st, h1, h2⟩ := H.pick (w := w) T h hh hx
  have hget := esc_get e h hh
  show WPs pr w Γ ⟨[("text", .str x), ("hand", .int h), ("hands", .undef)], []⟩ _ _
  refine ws_cons ?_
  tm_at "x"
  refine it_list (by omega) (by omega) (z := .obj (.ref (e h))) (by simpa using hget) ?_
  tm_at "x"
  refine wc_pure hΓ h2 h1 (by decide) (fun y hy => by simp at hy; subst hy; exact .str) fun v hv => ?_
  subst hv
  tm_at "x"
  exact ⟨.str, rfl⟩


local macro_rules | `(tactic| tm_at "d") => `(tactic| repeat' (with_reducible first | refine wd_cons ?_ | refine wd_nil ?_ | tm_at "x1"))
noncomputable def lessI : List (Int × MV) := [(255, .int 1), (20, .int 1), (33, .int 2)]
noncomputable def moreI : List (Int × MV) := [(254, .int 1), (21, .int 1), (34, .int 2)]
noncomputable def lessN (s : Int) : Int := if s = 255 then 1 else if s = 20 then 1 else if s = 33 then 2 else 0
noncomputable def moreN (s : Int) : Int := if s = 254 then 1 else if s = 21 then 1 else if s = 34 then 2 else 0
theorem mvAt3 (a b c s : Int) (x y z : MV) : (mvAt [(a, x), (b, y), (c, z)] s).getD (.int 0) = if s = a then x else if s = b then y else if s = c then z else .int 0 := by
  unfold mvAt
  by_cases h1 : a = s
  · simp [h1]
  · by_cases h2 : b = s
    · simp [h1, h2, Ne.symm h1]
    · by_cases h3 : c = s
      · simp [h1, h2, h3, Ne.symm h1, Ne.symm h2]
      · simp [h1, h2, h3, Ne.symm h1, Ne.symm h2, Ne.symm h3]
theorem less_int (s : Int) : (mvAt lessI s).getD (.int 0) = .int (lessN s) := by
  unfold lessI lessN; rw [mvAt3]; split <;> (try rfl); split <;> (try rfl); split <;> rfl
theorem more_int (s : Int) : (mvAt moreI s).getD (.int 0) = .int (moreN s) := by
  unfold moreI moreN; rw [mvAt3]; split <;> (try rfl); split <;> (try rfl); split <;> rfl
theorem sT : ScopeOk (fScope bSteps) ((["row"] : List Str) ++ (["less", "more"] : List Str)) := ⟨rfl, by decide +kernel, by decide +kernel, by decide +kernel⟩
theorem bT : ∀ doc pm cdv ct vs, vs.length = (["row"] : List Str).length → bindArgs (fnOf (fName bSteps) "_law_steps" (fArgs bSteps) (fBody bSteps) (fScope bSteps) .none .none doc pm none cdv ct) ⟨vs, []⟩ = pure ((["row"] : List Str).zip vs) := by intro doc pm cdv ct vs h; match vs, h with | [v], _ => rfl
noncomputable def compScope : Expr → Scope
  | .ListComp _ _ s _ => s
  | _ => default
noncomputable def retScope : Option Stmt → Scope
  | some (Stmt.Return (some e) _) => compScope e
  | _ => default
noncomputable def stepsScope : Scope := retScope (fBody bSteps)[2]?
noncomputable def stepsScope' : Scope := { stepsScope with names := stepsScope.names.map fun (n, k) => if k == .free then (n, .cell) else (n, k) }
theorem pf_steps {w : World} {hB : Heap} {mg mb : Str → Option Value} (T : TopF hB mg mb) {f : Addr} (hf : IsFn hB f "_law_steps" bSteps) {ns : List Int} (hn : ns.length ≤ 10000) : PureFn pr w 1 hB (.ref f) [.list (ns.map .int)] (fun v => v = .list (ns.map fun s => .tup [.int (lessN s), .int (moreN s)])) := by
  refine PureFn.of_stmt T hf ["row"] ["less", "more"] [] bT rfl sT nofun rfl rfl ?_
  intro Γ hΓ
  show WPs pr w Γ ⟨[("row", .list (ns.map .int)), ("less", .undef), ("more", .undef)], []⟩ _ _
  refine ws_cons ?_
  tm_at "x"
  refine wp_dictI hΓ T rfl rfl nofun (by decide) ?_
  tm_at "d"
  refine ⟨lessI, rfl, by decide, ?_⟩
  tm_at "x"
  refine wp_dictI hΓ T rfl rfl nofun (by decide) ?_
  tm_at "d"
  refine ⟨moreI, rfl, by decide, ?_⟩
  tm_at "x"
  have hre : relabel stepsScope Γ.env = stepsScope' := by
    unfold relabel
    rw [show Γ.env.kindOf = fun x => (fScope bSteps).names.lookup x from by funext x; show Γ.env.scope.names.lookup x = _; rw [hΓ.1], hΓ.1]; rfl
  refine wp_comp hΓ stepsScope' ["s"] [("less", .dictI lessI), ("more", .dictI moreI)] [] hre ⟨rfl, by decide +kernel, by decide +kernel, by decide +kernel, by decide +kernel, by decide +kernel, by decide +kernel⟩ (fun _ _ h => nomatch h) (show ∀ x ∈ (["less", "more"] : List Str), x ∈ (["row", "less", "more"] : List Str) ∧ (fScope bSteps).names.lookup x = some .cell from by decide +kernel) ?_ (fun _ _ => rfl)
  tm_at "x"
  refine ⟨_, Itr.list _ _ _, ?_, ?_, ?_⟩
  · rw [List.length_map]; show _ ≤ 16777216; omega
  · intro p hp
    simp only [List.mem_cons, List.not_mem_nil, or_false] at hp
    rcases hp with rfl | rfl
    · exact ⟨.tail _ (.head _), rfl, Closed.dictI fun x hx => by simp only [lessI, List.mem_cons, List.not_mem_nil, or_false] at hx; rcases hx with rfl | rfl | rfl <;> exact .int⟩
    · exact ⟨.tail _ (.tail _ (.head _)), rfl, Closed.dictI fun x hx => by simp only [moreI, List.mem_cons, List.not_mem_nil, or_false] at hx; rcases hx with rfl | rfl | rfl <;> exact .int⟩
  have cl : ∀ s : Int, Closed (.tup [.int (lessN s), .int (moreN s)]) := fun s => Closed.tup fun y hy => by simp only [List.mem_cons, List.not_mem_nil, or_false] at hy; rcases hy with rfl | rfl <;> exact .int
  refine comp_map (fun _ => true) (fun y => match y with | .int s => .tup [.int (lessN s), .int (moreN s)] | z => z) _ _ _ ?_ ?_ ?_
  · intro y hy _
    obtain ⟨s, _, rfl⟩ := List.mem_map.mp hy
    exact cl s
  · intro y hy Γ' hΓ'
    obtain ⟨s, _, rfl⟩ := List.mem_map.mp hy
    have hgl : Γ'.glob = ([("less", .dictI lessI), ("more", .dictI moreI)] : List (Str × MV)) := hΓ'.2.2.1
    refine wa_name (.here .undef []) (wi_nil ⟨rfl, rfl, fun _ => ?_⟩)
    tm_at "x"
    refine wm_dictI PySem.F.slot_dict_get PySem.F.type_dict_get ?_
    tm_at "x"
    refine wc_getId ?_
    tm_at "x"
    refine wm_dictI PySem.F.slot_dict_get PySem.F.type_dict_get ?_
    tm_at "x"
    refine wc_getId ?_
    tm_at "x"
    exact ⟨by rw [less_int, more_int], rfl⟩
  · rw [show (List.map MV.int ns).filter (fun _ => true) = List.map MV.int ns from List.filter_eq_self.mpr fun _ _ => rfl, List.map_map, List.nil_append]
    exact ⟨Closed.list fun y hy => by obtain ⟨s, _, rfl⟩ := List.mem_map.mp hy; exact cl s, rfl⟩

noncomputable def whBody : Option Stmt → List Stmt
  | some (Stmt.While _ b _ _) => b
  | _ => []
noncomputable def bareOf (h : Nat) : Str := if (2 : Int) = h then "<" else if (4 : Int) = h then ">" else Str.empty
noncomputable def otherL (w : Str) (h : Nat) : List Str := (strs1 w).filter (· != bareOf h)
noncomputable def otherS (w : Str) (h : Nat) : Str := Builtin.Str.glued Str.empty (otherL w h)
noncomputable def sepOf (h : Nat) : Str := repS "><" (bareOf h) Str.empty
noncomputable def runsOf (w : Str) (h : Nat) : List Int := (splitS w (sepOf h)).map fun r => ((r.length : Int) + 1).fdiv 2
noncomputable def backL (x : Str) : List Str := (strs1 x).map (("\\" : Str) ++ ·)
noncomputable def wsS : Str := " \n\t\r"
noncomputable def wsAt (f : Nat) : Str := ⟨#[(wsS.cps[f / 9 % 4]?).getD 0]⟩
noncomputable def encS (w : Str) (f : Nat) : Str :=
  if f / 3 % 3 = 1 then ("\"" ++ escS w (escT (f / 36))) ++ "\"" else if f / 3 % 3 = 2 then Builtin.Str.glued Str.empty (backL (escS w (escT (f / 36)))) ++ wsAt f else escS w (escT (f / 36)) ++ wsAt f
noncomputable def dSp (w : Str) (h : Nat) : Int := (otherS w h).length
noncomputable def dSy (w : Str) (h : Nat) : Int := if bareOf h != Str.empty then dSp w h + (runsOf w h).sum else dSp w h
structure OkC (w : Str) (h : Nat) : Prop where
  len : w.length ≤ 3
  fits : fitsS w (escT h)
  oj : joinLen Str.empty (otherL w h) ≤ sizeLine
  ol : (otherS w h).length ≤ sizeLine
  fsep : ("><" : Str).length + (occs "><" (bareOf h)).length * Str.empty.length ≤ sizeLine ∧ (sepOf h).length ≤ sizeLine
  sep : bareOf h != Str.empty → ((sepOf h).length == 0) = false ∧ (bareOf h == Str.empty) = false
  runs : (splitS w (sepOf h)).length ≤ 100 ∧ ∀ r ∈ splitS w (sepOf h), r.length ≤ 100
  xl : (escS w (escT h)).length ≤ 40
  bj : joinLen Str.empty (backL (escS w (escT h))) ≤ 100
  bl : (Builtin.Str.glued Str.empty (backL (escS w (escT h)))).length ≤ 100
noncomputable def pageL (ok : Str → Bool) : Nat → Str → Int → Str → Int → Int → Option (Str × Int × Int)
  | 0, _, _, _, _, _ => none
  | k + 1, A, n, P, sp, sy => if A != Str.empty then
      let f := (n.fmod 180).toNat
      let w := Txt.slice A none (some (1 + ((f % 3 : Nat) : Int)))
      if ok w then pageL ok k (Txt.slice A (some (w.length : Int)) none) (n.fdiv 180) (P ++ encS w f) (sp + dSp w (f / 36)) (sy + dSy w (f / 36)) else none
    else some (P, sp, sy)
noncomputable abbrev glP (fw : Addr) : List (Str × MV) := [("len", .obj (.builtin "len")), ("sum", .obj (.builtin "sum")), ("_law_written", .obj (.ref fw))]
noncomputable abbrev locP (A : Str) (n : Int) (P : Str) (sp sy : Int) (z1 z2 z3 z4 z5 : MV) : List (Str × MV) := [("answers", .str A), ("number", .int n), ("page", .str P), ("spelled", .int sp), ("symbols", .int sy), ("figure", z1), ("word", z2), ("bare", z3), ("other", z4), ("written", z5)]
theorem sP : ScopeOk (fScope bPage) ((["answers", "number"] : List Str) ++ (["page", "spelled", "symbols", "figure", "word", "bare", "other", "written"] : List Str)) := ⟨rfl, by decide +kernel, by decide +kernel, by decide +kernel⟩
theorem bP : ∀ doc pm cdv ct vs, vs.length = (["answers", "number"] : List Str).length → bindArgs (fnOf (fName bPage) "_law_page" (fArgs bPage) (fBody bPage) (fScope bPage) .none .none doc pm none cdv ct) ⟨vs, []⟩ = pure ((["answers", "number"] : List Str).zip vs) := by intro doc pm cdv ct vs h; match vs, h with | [v, u], _ => rfl
theorem sum_bound : ∀ {l : List Int}, (∀ i ∈ l, 0 ≤ i ∧ i ≤ 100) → 0 ≤ l.sum ∧ l.sum ≤ 100 * l.length
  | [], _ => by simp
  | a :: l, h => by
    have := sum_bound (l := l) fun i hi => h i (.tail _ hi)
    have := h a (.head _)
    simp only [List.sum_cons, List.length_cons]
    omega
theorem filt_signs (ch b : Str) : [] ++ ((signs ch).filter (fun y => match y with | .str s => s != b | _ => false)).map (fun y => y) = ((strs1 ch).filter (· != b)).map MV.str := by
  rw [List.map_id', List.nil_append]
  unfold signs strs1
  induction ch.cps.toList with
  | nil => rfl
  | cons c l ih =>
    rw [List.map_cons, List.map_cons, List.filter_cons, List.filter_cons]
    dsimp only
    split
    · rw [ih]; rfl
    · exact ih
theorem eq_of_beqI {a : Nat} {k : Int} (h : ((a : Int) == k) = true) : (a : Int) = k := by simpa using h
theorem back_signs (x : Str) : [] ++ ((signs x).filter (fun _ => true)).map (fun y => match y with | .str s => MV.str ("\\" ++ s) | z => z) = (backL x).map MV.str := by
  rw [List.filter_eq_self.mpr (fun _ _ => rfl), List.nil_append]
  unfold signs backL strs1
  rw [List.map_map, List.map_map, List.map_map]
  rfl
theorem page_tail {w : World} {hB : Heap} {mg mb : Str → Option Value} (T : TopF hB mg mb) {fw : Addr} {e : Nat → Addr} (hfw : IsFn hB fw "_law_written" bWritten) (H : EscAt hB e) (hgw : ∀ p ∈ glW e, GlobAt w hB mg mb (fScope bWritten) p)
    {Γ : Cx} (hΓ : Γof (fScope bPage) Γ hB 4 (glP fw)) {I : St → Prop} {QF : MF → St → Prop} {A P : Str} {n sp sy : Int} {b z4 z5 : MV} {ch : Str} {f : Nat} {body : List Stmt} (hP : P.length ≤ 10000) (hb : body = (whBody (fBody bPage)[3]?).drop 9) (hflt : f < 180) (hok : OkC ch (f / 36))
    (h : ∀ z1 z2 z3 z4 z5, I ⟨locP A n (P ++ encS ch f) sp sy z1 z2 z3 z4 z5, []⟩) :
    WPs pr w Γ ⟨locP A n P sp sy (.int f) (.str ch) b z4 z5, []⟩ body (turn I QF) := by
  subst hb
  have hgl : Γ.glob = glP fw := hΓ.2.2.1
  have hd36 : ((f : Int)).fdiv 36 = ((f / 36 : Nat) : Int) := by rw [Int.fdiv_eq_ediv_of_nonneg _ (by decide)]; rfl
  have hd3 : ((f : Int)).fdiv 3 = ((f / 3 : Nat) : Int) := by rw [Int.fdiv_eq_ediv_of_nonneg _ (by decide)]; rfl
  have hd9 : ((f : Int)).fdiv 9 = ((f / 9 : Nat) : Int) := by rw [Int.fdiv_eq_ediv_of_nonneg _ (by decide)]; rfl
  have hm33 : (((f / 3 : Nat) : Int)).fmod 3 = ((f / 3 % 3 : Nat) : Int) := by rw [Int.fmod_eq_emod_of_nonneg _ (by decide)]; rfl
  have hm94 : (((f / 9 : Nat) : Int)).fmod 4 = ((f / 9 % 4 : Nat) : Int) := by rw [Int.fmod_eq_emod_of_nonneg _ (by decide)]; rfl
  have hh5 : f / 36 < 5 := by omega
  obtain ⟨o1, o2, o3, o4, o5, o6, o7, o8, o9, o10⟩ := hok
  show WPs pr w Γ _ [_, _] _
  tm_at "x"
  refine w2_div (by decide) (by decide) ?_
  rw [hd36]
  tm_at "x"
  refine wc_pure hΓ (pf_written T hfw H hgw hh5 o2) hfw (by decide) (fun y hy => by simp at hy; rcases hy with rfl | rfl; exact .str; exact .int) fun v hv => ?_
  subst hv
  tm_at "x"
  have cat : ∀ a b c : Str, a.length ≤ 100 → b.length ≤ 100 → c.length ≤ 20000 → a.length + b.length ≤ sizeLine ∧ c.length + (a ++ b).length ≤ sizeLine := fun a b c h1 h2 h3 => by
    rw [Str.length_append]; show _ ≤ 16777216 ∧ _ ≤ 16777216; omega
  have wsl : (wsAt f).length ≤ 100 := show 1 ≤ 100 by decide
  have h1 : (Str.ofString "\"").length ≤ 50 := by decide +kernel
  have hws : wsS.cps[f / 9 % 4]? = some ((wsS.cps[f / 9 % 4]?).getD 0) := by
    have : f / 9 % 4 < 4 := Nat.mod_lt _ (by decide)
    generalize f / 9 % 4 = j at this
    match j, this with
    | 0, _ => rfl
    | 1, _ => rfl
    | 2, _ => rfl
    | 3, _ => rfl
  refine w2_div (by decide) (by decide) ?_
  rw [hd3]
  tm_at "x"
  refine w2_mod (by decide) ?_
  rw [hm33]
  tm_at "x"
  unfold encS at h
  refine ⟨fun hc => ?_, fun hc => ?_⟩
  · have e : f / 3 % 3 = 1 := by have q := eq_of_beqI hc; omega
    simp only [e, if_true] at h
    tm_at "x"
    have h2 := cat (Str.ofString "\"") (escS ch (escT (f / 36))) P (by omega) (by omega) (by omega)
    have h3 := cat (Str.ofString "\"" ++ escS ch (escT (f / 36))) (Str.ofString "\"") P (by rw [Str.length_append]; omega) (by omega) (by omega)
    refine w2_cat h2.1 ?_
    tm_at "x"
    refine w2_cat h3.1 ?_
    refine w2_icat h3.2 ?_
    tm_at "x"
    exact h _ _ _ _ _
  · have e : f / 3 % 3 ≠ 1 := fun q => by rw [q] at hc; exact absurd hc (by decide)
    tm_at "x"
    refine w2_div (by decide) (by decide) ?_
    rw [hd3]
    tm_at "x"
    refine w2_mod (by decide) ?_
    rw [hm33]
    tm_at "x"
    refine ⟨fun hc => ?_, fun hc => ?_⟩
    · have e2 : f / 3 % 3 = 2 := by have q := eq_of_beqI hc; omega
      rw [if_neg e, if_pos e2] at h
      tm_at "x"
      refine wm_str PySem.F.slot_str_join PySem.F.type_str_join ?_
      refine' wl_cons ?_ ?he
      case he => intro _; rfl
      have hx0 : (signs (escS ch (escT (f / 36)))).length ≤ 40 := by unfold signs; rw [List.length_map]; exact o8
      refine wp_compD hΓ ["sign"] [] [] [] rfl ⟨rfl, by decide +kernel, by decide +kernel, by decide +kernel, by decide +kernel, by decide +kernel, by decide +kernel⟩ (fun _ _ h => nomatch h) (fun x h => nomatch h) ?_ (fun _ _ => rfl)
      tm_at "x"
      refine ⟨_, Itr.str _ _ _, Nat.le_trans hx0 (by decide), (fun p hp => by cases hp), ?_⟩
      refine comp_map (fun _ => true) (fun y => match y with | .str s => .str ("\\" ++ s) | z => z) _ _ _ ?_ ?_ ?_
      · intro y hy _
        obtain ⟨c, _, rfl⟩ := List.mem_map.mp hy
        exact .str
      · intro y hy Γ' hΓ''
        obtain ⟨c, _, rfl⟩ := List.mem_map.mp hy
        refine wa_name (.here .undef []) (wi_nil ⟨rfl, rfl, fun _ => ?_⟩)
        tm_at "x"
        refine w2_cat (show 1 + 1 ≤ 16777216 by decide) ?_
        exact ⟨rfl, rfl⟩
      rw [show [] ++ ((signs (escS ch (escT (f / 36)))).filter (fun _ => true)).map (fun y => match y with | .str s => .str ("\\" ++ s) | z => z) = (backL (escS ch (escT (f / 36)))).map MV.str from back_signs _]
      tm_at "x"
      refine wc_join (Nat.le_trans o9 (by decide)) (Nat.le_trans o10 (by decide)) ?_
      tm_at "x"
      refine w2_div (by decide) (by decide) ?_
      rw [hd9]
      tm_at "x"
      refine w2_mod (by decide) ?_
      rw [hm94]
      refine it_str (by omega) (by omega) (by show wsS.cps[((f / 9 % 4 : Nat) : Int).toNat]? = _; rw [Int.toNat_natCast]; exact hws) ?_
      have h2 := cat (Builtin.Str.glued Str.empty (backL (escS ch (escT (f / 36))))) (wsAt f) P (by omega) (by omega) (by omega)
      refine w2_cat h2.1 ?_
      refine w2_icat h2.2 ?_
      tm_at "x"
      exact h _ _ _ _ _
    · have e2 : f / 3 % 3 ≠ 2 := fun q => by rw [q] at hc; exact absurd hc (by decide)
      rw [if_neg e, if_neg e2] at h
      tm_at "x"
      refine w2_div (by decide) (by decide) ?_
      rw [hd9]
      tm_at "x"
      refine w2_mod (by decide) ?_
      rw [hm94]
      refine it_str (by omega) (by omega) (by show wsS.cps[((f / 9 % 4 : Nat) : Int).toNat]? = _; rw [Int.toNat_natCast]; exact hws) ?_
      have h2 := cat (escS ch (escT (f / 36))) (wsAt f) P (by omega) (by omega) (by omega)
      refine w2_cat h2.1 ?_
      refine w2_icat h2.2 ?_
      tm_at "x"
      exact h _ _ _ _ _
theorem page_turn {w : World} {hB : Heap} {mg mb : Str → Option Value} (T : TopF hB mg mb) {fw : Addr} {e : Nat → Addr} (hfw : IsFn hB fw "_law_written" bWritten) (H : EscAt hB e) (hgw : ∀ p ∈ glW e, GlobAt w hB mg mb (fScope bWritten) p)
    {Γ : Cx} (hΓ : Γof (fScope bPage) Γ hB 4 (glP fw)) (hg : ∀ p ∈ glP fw, GlobAt w hB mg mb (fScope bPage) p)
    {t : Expr} {body orelse : List Stmt} {ps : Pos} (hb : (fBody bPage)[3]? = some (.While t body orelse ps)) {I : St → Prop} {QF : MF → St → Prop} {A P : Str} {n sp sy : Int} {z1 z2 z3 z4 z5 : MV} {ch : Str} {f : Nat}
    (hA : A.length ≤ 1000) (hP : P.length ≤ 10000) (hf : (n.fmod 180).toNat = f) (hch : Txt.slice A none (some (1 + ((f % 3 : Nat) : Int))) = ch) (hok : ∀ h, h < 5 → OkC ch h)
    (h : ∀ z1 z2 z3 z4 z5, I ⟨locP (Txt.slice A (some (ch.length : Int)) none) (n.fdiv 180) (P ++ encS ch f) (sp + dSp ch (f / 36)) (sy + dSy ch (f / 36)) z1 z2 z3 z4 z5, []⟩) :
    WPs pr w Γ ⟨locP A n P sp sy z1 z2 z3 z4 z5, []⟩ body (turn I QF) := by
  have hgl : Γ.glob = glP fw := hΓ.2.2.1
  cases hb
  have hfn : n.fmod 180 = (f : Int) := by
    have := Int.fmod_nonneg_of_pos n (b := 180) (by decide)
    omega
  have hflt : f < 180 := by
    have := Int.fmod_lt_of_pos n (b := 180) (by decide)
    omega
  have hA' : A.length ≤ sizeLine := Nat.le_trans hA (by decide)
  have hm3 : ((f : Int)).fmod 3 = ((f % 3 : Nat) : Int) := by rw [Int.fmod_eq_emod_of_nonneg _ (by decide)]; rfl
  have hd36 : ((f : Int)).fdiv 36 = ((f / 36 : Nat) : Int) := by rw [Int.fdiv_eq_ediv_of_nonneg _ (by decide)]; rfl
  have hd3 : ((f : Int)).fdiv 3 = ((f / 3 : Nat) : Int) := by rw [Int.fdiv_eq_ediv_of_nonneg _ (by decide)]; rfl
  have hd9 : ((f : Int)).fdiv 9 = ((f / 9 : Nat) : Int) := by rw [Int.fdiv_eq_ediv_of_nonneg _ (by decide)]; rfl
  have hm33 : (((f / 3 : Nat) : Int)).fmod 3 = ((f / 3 % 3 : Nat) : Int) := by rw [Int.fmod_eq_emod_of_nonneg _ (by decide)]; rfl
  have hm94 : (((f / 9 : Nat) : Int)).fmod 4 = ((f / 9 % 4 : Nat) : Int) := by rw [Int.fmod_eq_emod_of_nonneg _ (by decide)]; rfl
  have hh5 : f / 36 < 5 := by omega
  obtain ⟨o1, o2, o3, o4, o5, o6, o7, o8, o9, o10⟩ := hok (f / 36) hh5
  tm_at "x"
  refine w2_mod (by decide) ?_
  rw [hfn]
  tm_at "x"
  refine w2_div (by decide) (by decide) ?_
  tm_at "x"
  refine w2_mod (by decide) ?_
  rw [hm3]
  tm_at "x"
  refine sl_str hA' ?_
  rw [hch]
  tm_at "x"
  refine wc_lenS (Nat.le_trans o1 (by decide)) ?_
  tm_at "x"
  refine sl_str hA' ?_
  refine putq_here (then_next ?_)
  refine ws_bare (i := ((f / 36 : Nat) : Int)) hΓ T (by decide) rfl (fun n => ?_) (fun t ht => ?_) (fun _ => rfl) (fun _ => rfl) (fun _ => rfl)
  · tm_at "x"
    refine w2_div (by decide) (by decide) ?_
    rw [hd36]
    exact ⟨rfl, rfl⟩
  rw [show (if (2 : Int) = ((f / 36 : Nat) : Int) then ("<" : Str) else if (4 : Int) = ((f / 36 : Nat) : Int) then (">" : Str) else Str.ofString "") = bareOf (f / 36) from rfl]
  tm_at "x"
  have hΓ' : Γof (fScope bPage) (Γ.at' (t + 1)) hB 4 (glP fw) := hΓ
  have hgl' : (Γ.at' (t + 1)).glob = glP fw := hgl
  generalize hG : Γ.at' (t + 1) = G at hΓ' hgl' ⊢
  have hGlo : t + 1 ≤ G.lo := by subst hG; exact Nat.le_refl _
  refine wm_str PySem.F.slot_str_join PySem.F.type_str_join ?_
  refine' wl_cons ?_ ?he
  case he => intro _; rfl
  refine wp_compD hΓ' ["sign"] [("bare", .obj (.str (bareOf (f / 36)) t))] [] ["bare"] rfl ⟨rfl, by decide +kernel, by decide +kernel, by decide +kernel, by decide +kernel, by decide +kernel, by decide +kernel⟩ (fun _ _ h => nomatch h) (show ∀ x ∈ (["bare"] : List Str), x ∈ (["answers", "number", "page", "spelled", "symbols", "figure", "word", "bare", "other", "written"] : List Str) ∧ (fScope bPage).names.lookup x = some .cell from by decide +kernel) ?_ (fun _ _ => rfl)
  tm_at "x"
  refine ⟨_, Itr.str _ _ _, ?_, ?_, ?_⟩
  · have : (signs ch).length ≤ 3 := by unfold signs; rw [List.length_map]; exact o1
    exact Nat.le_trans this (by decide)
  · intro p hp
    simp only [List.mem_cons, List.not_mem_nil, or_false] at hp
    subst hp
    exact ⟨by simp, rfl, Closed.obj⟩
  refine comp_map (fun y => match y with | .str s => s != bareOf (f / 36) | _ => false) (fun y => y) _ _ _ ?_ ?_ ?_
  · intro y hy _
    obtain ⟨c, _, rfl⟩ := List.mem_map.mp hy
    exact .str
  · intro y hy Γ' hΓ''
    obtain ⟨c, _, rfl⟩ := List.mem_map.mp hy
    have hgl'' : Γ'.glob = ([("bare", .obj (.str (bareOf (f / 36)) t))] : List (Str × MV)) := hΓ''.2.2.1
    refine wa_name (.here .undef []) (wi_one ?_)
    tm_at "x"
    refine w2_ob ?_
    tm_at "x"
    refine ⟨rfl, rfl, fun _ => ?_⟩
    tm_at "x"
    exact ⟨rfl, rfl⟩
  rw [show [] ++ ((signs ch).filter (fun y => match y with | .str s => s != bareOf (f / 36) | _ => false)).map (fun y => y) = (otherL ch (f / 36)).map MV.str from filt_signs _ _]
  tm_at "x"
  refine wc_join o3 o4 ?_
  rw [show Builtin.Str.glued (Str.ofString "") (otherL ch (f / 36)) = otherS ch (f / 36) from rfl]
  tm_at "x"
  refine wc_lenS o4 ?_
  tm_at "x"
  refine wc_lenS o4 ?_
  tm_at "x"
  refine w2_ob1 ?_
  tm_at "x"
  refine ⟨fun hc => ?_, fun hc => ?_⟩
  · have hb : (bareOf (f / 36) != Str.empty) = true := hc
    obtain ⟨s1, s2⟩ := o6 hb
    have hnn : ∀ i ∈ runsOf ch (f / 36), 0 ≤ i ∧ i ≤ 100 := fun i hi => by
      obtain ⟨r, hr, rfl⟩ := List.mem_map.mp hi
      have := o7.2 r hr
      rw [Int.fdiv_eq_ediv_of_nonneg _ (by decide)]
      omega
    tm_at "x"
    refine wp_compD hΓ' ["run"] [] [("len", .obj (.builtin "len"))] [] rfl ⟨rfl, by decide +kernel, by decide +kernel, by decide +kernel, by decide +kernel, by decide +kernel, by decide +kernel⟩ (GlobOk.of T rfl fun p hp => ?_) (fun x h => nomatch h) ?_ (fun _ _ => rfl)
    · simp only [List.mem_cons, List.not_mem_nil, or_false] at hp
      subst hp
      exact (hg _ (.head _)).re (by decide +kernel)
    tm_at "x"
    refine wm_str PySem.F.slot_str_split PySem.F.type_str_split ?_
    refine' wl_cons ?_ ?he
    case he => intro _; rfl
    refine' wp_replaceN s2 (by tm_at "lk") ht hGlo o5 (wp_str ⟨rfl, rfl⟩) ?_ ?hst ?hc
    case hst => intro _; rfl
    case hc => intro _; rfl
    tm_at "x"
    refine wc_split (y := sepOf (f / 36)) s1 (Nat.le_trans o1 (by decide)) (Nat.le_trans o7.1 (by decide)) ?_
    refine ⟨_, Itr.list _ _ _, ?_, (fun p hp => by cases hp), ?_⟩
    · rw [List.length_map]; exact Nat.le_trans o7.1 (by decide)
    refine comp_map (fun _ => true) (fun y => match y with | .str r => .int (((r.length : Int) + 1).fdiv 2) | z => z) _ _ _ ?_ ?_ ?_
    · intro y hy _
      obtain ⟨c, _, rfl⟩ := List.mem_map.mp hy
      exact .int
    · intro y hy Γ' hΓ''
      obtain ⟨r, hr, rfl⟩ := List.mem_map.mp hy
      have hgl'' : Γ'.glob = ([("len", .obj (.builtin "len"))] : List (Str × MV)) := hΓ''.2.2.1
      refine wa_name (.here .undef []) (wi_nil ⟨rfl, rfl, fun _ => ?_⟩)
      tm_at "x"
      refine wc_lenS (Nat.le_trans (o7.2 r hr) (by decide)) ?_
      tm_at "x"
      refine w2_div (by decide) (by decide) ?_
      exact ⟨rfl, rfl⟩
    rw [show (List.map MV.str (splitS ch (sepOf (f / 36)))).filter (fun _ => true) = List.map MV.str (splitS ch (sepOf (f / 36))) from List.filter_eq_self.mpr fun _ _ => rfl, List.map_map, List.nil_append]
    rw [show List.map ((fun y => match y with | .str r => MV.int (((r.length : Int) + 1).fdiv 2) | z => z) ∘ MV.str) (splitS ch (sepOf (f / 36))) = (runsOf ch (f / 36)).map MV.int from by unfold runsOf; rw [List.map_map]; rfl]
    tm_at "x"
    refine wc_sum (fun k hk => ?_) (fun i hi => by have := hnn i hi; omega) ?_
    · have hb := sum_bound (l := (runsOf ch (f / 36)).take k) fun i hi => hnn i (List.mem_of_mem_take hi)
      have hl : ((runsOf ch (f / 36)).take k).length ≤ 100 := by
        rw [List.length_take]
        have : (runsOf ch (f / 36)).length ≤ 100 := by unfold runsOf; rw [List.length_map]; exact o7.1
        omega
      omega
    refine w2_iadd ?_
    refine putq_there (putq_there (putq_there (putq_there (putq_here (then_next (ws_nil (then_next ?_)))))))
    refine page_tail T hfw H hgw hΓ' hP rfl hflt (hok _ hh5) fun z1 z2 z3 z4 z5 => ?_
    have h' := h z1 z2 z3 z4 z5
    unfold dSy at h'
    rw [if_pos hb, ← Int.add_assoc] at h'
    exact h'
  · have hb : (bareOf (f / 36) != Str.empty) = false := hc
    refine ws_nil (then_next ?_)
    refine page_tail T hfw H hgw hΓ' hP rfl hflt (hok _ hh5) fun z1 z2 z3 z4 z5 => ?_
    have h' := h z1 z2 z3 z4 z5
    unfold dSy at h'
    rw [if_neg (by rw [hb]; simp)] at h'
    exact h'

theorem enc_len {ch : Str} {f : Nat} (h : OkC ch (f / 36)) : (encS ch f).length ≤ 105 := by
  obtain ⟨o1, o2, o3, o4, o5, o6, o7, o8, o9, o10⟩ := h
  have h1 : (Str.ofString "\"").length ≤ 1 := by decide +kernel
  have wsl : (wsAt f).length ≤ 1 := show 1 ≤ 1 by decide
  unfold encS
  split
  · rw [Str.length_append, Str.length_append]; omega
  · split <;> (rw [Str.length_append]; omega)
theorem page_loop {w : World} {hB : Heap} {mg mb : Str → Option Value} (T : TopF hB mg mb) {fw : Addr} {e : Nat → Addr} (hfw : IsFn hB fw "_law_written" bWritten) (H : EscAt hB e) (hgw : ∀ p ∈ glW e, GlobAt w hB mg mb (fScope bWritten) p)
    {Γ : Cx} (hΓ : Γof (fScope bPage) Γ hB 4 (glP fw)) (hg : ∀ p ∈ glP fw, GlobAt w hB mg mb (fScope bPage) p) {ok : Str → Bool} (hok : ∀ ch, ok ch = true → ∀ h, h < 5 → OkC ch h)
    {t : Expr} {body orelse : List Stmt} {ps : Pos} (hb : (fBody bPage)[3]? = some (.While t body orelse ps)) {QF : MF → St → Prop} {r : Str × Int × Int} :
    ∀ (k : Nat) (A : Str) (n : Int) (P : Str) (sp sy : Int) (z1 z2 z3 z4 z5 : MV), A.length ≤ 1000 → P.length + 105 * k ≤ 10000 → pageL ok k A n P sp sy = some r → (∀ A n z1 z2 z3 z4 z5, QF .next ⟨locP A n r.1 r.2.1 r.2.2 z1 z2 z3 z4 z5, []⟩) → WPw pr w Γ t body QF k ⟨locP A n P sp sy z1 z2 z3 z4 z5, []⟩ := by
  have hb' := hb
  cases hb
  intro k
  induction k with
  | zero => intro A n P sp sy z1 z2 z3 z4 z5 _ _ h; simp [pageL] at h
  | succ k ih =>
    intro A n P sp sy z1 z2 z3 z4 z5 hA hP h hQ
    show WPt _ _ _ _ _ _
    tm_at "x"
    unfold pageL at h
    refine ⟨fun hc => ?_, fun hc => ?_⟩
    · rw [if_pos (show (A != Str.empty) = true from hc)] at h
      dsimp only at h
      cases hch : ok (Txt.slice A none (some (1 + (((n.fmod 180).toNat % 3 : Nat) : Int)))) with
      | false => rw [hch, if_neg (by simp)] at h; cases h
      | true =>
        rw [hch, if_pos rfl] at h
        refine page_turn T hfw H hgw hΓ hg hb' hA (by omega) rfl rfl (hok _ hch) fun z1 z2 z3 z4 z5 => ?_
        have hl := enc_len (hok _ hch ((n.fmod 180).toNat / 36) (by
          have := Int.fmod_lt_of_pos n (b := 180) (by decide)
          omega))
        exact ih _ _ _ _ _ _ _ _ _ _ (Nat.le_trans (Txt.slice_le _ _ _) hA) (by rw [Str.length_append]; omega) h hQ
    · rw [if_neg (show ¬ (A != Str.empty) = true from by rw [show (A != Str.empty) = false from hc]; simp)] at h
      cases h
      exact hQ _ _ _ _ _ _ _
theorem pf_page {w : World} {hB : Heap} {mg mb : Str → Option Value} (T : TopF hB mg mb) {f fw : Addr} (hf : IsFn hB f "_law_page" bPage) {e : Nat → Addr} (hfw : IsFn hB fw "_law_written" bWritten) (H : EscAt hB e) (hgw : ∀ p ∈ glW e, GlobAt w hB mg mb (fScope bWritten) p)
    (hg : ∀ p ∈ glP fw, GlobAt w hB mg mb (fScope bPage) p) {ok : Str → Bool} (hok : ∀ ch, ok ch = true → ∀ h, h < 5 → OkC ch h) {A : Str} {n : Int} {r : Str × Int × Int} (hA : A.length ≤ 1000) (hr : pageL ok 90 A n Str.empty 0 0 = some r) (hrl : r.1.length ≤ 10000) :
    PureFn pr w 5 hB (.ref f) [.str A, .int n] (fun v => v = .tup [.str (r.1 ++ "x"), .int r.2.1, .int r.2.2]) := by
  refine PureFn.of_stmt T hf ["answers", "number"] ["page", "spelled", "symbols", "figure", "word", "bare", "other", "written"] (glP fw) bP rfl sP hg rfl rfl ?_
  intro Γ hΓ
  show WPs pr w Γ ⟨[("answers", .str A), ("number", .int n), ("page", .undef), ("spelled", .undef), ("symbols", .undef), ("figure", .undef), ("word", .undef), ("bare", .undef), ("other", .undef), ("written", .undef)], []⟩ _ _
  refine ws_cons ?_
  tm_at "x"
  refine wx_while 90 (page_loop T hfw H hgw hΓ hg hok (t := _) (body := _) (orelse := []) rfl 90 A n Str.empty 0 0 .undef .undef .undef .undef .undef hA (by decide +kernel) hr fun A n z1 z2 z3 z4 z5 => ?_)
  tm_at "x"
  refine w2_cat (by show _ + 1 ≤ 16777216; omega) ?_
  tm_at "x"
  exact ⟨Closed.tup fun y hy => by simp only [List.mem_cons, List.not_mem_nil, or_false] at hy; rcases hy with rfl | rfl | rfl; exact .str; exact .int; exact .int, rfl⟩

noncomputable def bLexer : Stmt := stAt pr 65
noncomputable def rhs : Option Stmt → Expr
  | some (.Assign _ e _) => e
  | _ => .Constant .none 0 ⟨0, 0, 0, 0⟩
noncomputable def lamE : Expr := rhs (fBody bLexer)[2]?
noncomputable def lamArgs : Arguments := match lamE with | .Lambda a _ _ _ => a | _ => ⟨[], [], none, [], [], none, []⟩
noncomputable def lamBody : Expr := match lamE with | .Lambda _ b _ _ => b | _ => .Constant .none 0 ⟨0, 0, 0, 0⟩
noncomputable def lamScope : Scope := match lamE with | .Lambda _ _ s _ => s | _ => default
noncomputable def lamPos : Pos := match lamE with | .Lambda _ _ _ p => p | _ => ⟨0, 0, 0, 0⟩
theorem strsD (xs : List Str) : IsD (.list (xs.map .str)) (.list (xs.map .str)) := .list _ _ (by simp) fun i x d a b => by
  rw [List.getElem?_map] at a b
  cases h : xs[i]? with
  | none => rw [h] at a; cases a
  | some n => rw [h] at a b; cases a; cases b; exact .str n
theorem lay_strsA : ∀ ns : List Str, (∀ x ∈ ns, PyData.canLay0 (.str x) = true) → PyData.canLayAll0 (ns.map .str) = true
  | [], _ => rfl
  | n :: ns, h => by
    show (PyData.canLay0 (.str n) && PyData.canLayAll0 (ns.map .str)) = true
    rw [lay_strsA ns fun x hx => h x (.tail _ hx), h n (.head _)]; rfl
theorem depth_strsA : ∀ ns : List Str, PyData.depthAll (ns.map .str) ≤ 1
  | [] => by decide
  | n :: ns => by
    have := depth_strsA ns
    simp only [List.map_cons, PyData.depthAll, PyData.depth]
    omega
theorem eqvS_nil (ns : List Str) : PyData.eqv (.list (ns.map .str)) (.list []) = ns.isEmpty := by
  cases ns <;> rfl
section
variable {w : World} {A : Around} {E : Value → Shared → Prop} {s : Shared} {env : Env}
/-- what the lambda tells -/
theorem lam_body {cel S : Addr} {vs : List Value} {n : Nat} {xs : List Str} {m : Str → Option Value} {t : Tok} {Q : Value → Shared → Prop} (hk : env.scope.kind = .function) (hks : env.kindOf "signs" = some .free) (hkc : env.kindOf "count" = some .local) (hcl : env.cells.lookup ("signs" : Str) = some cel)
    (hcell : s.heap.IsCell cel (some (.ref S))) (hS : s.heap.get? S = some (listO vs n)) (hv : VRs w (fun _ => none) noρ (xs.map .str) vs) (hns : s.heap.Ns env.locals m) (hm : m "count" = some (.int 1 t)) (hu : A.units + 10 < cLine) (hsz : xs.length ≤ sizeLine) (hlay : ∀ x ∈ xs, PyData.canLay0 (.str x) = true)
    (hnil : ∀ h' tk t', xs = [] → s.toks ≤ tk → (∀ b o, s.heap.get? b = some o → h'.get? b = some o) → Q (.str Str.empty t') { s with heap := h', toks := tk })
    (hcons : ∀ h' tk t' x xs' vs' n', xs = x :: xs' → s.toks ≤ tk → (∀ b o, b ≠ S → s.heap.get? b = some o → h'.get? b = some o) → h'.get? S = some (listO vs' n') → VRs w (fun _ => none) noρ (xs'.map .str) vs' → Q (.str x t') { s with heap := h', toks := tk }) :
    wpAny (model pr w) A (eval lamBody env) Q E s := by
  show wpAny _ _ (eval (.IfExp _ _ _ _) env) _ _ _
  refine wpAny_IfExp (wpAny_isTrue_BoolOp (wpAny_allTrue_And_cons (wpAny_isTrue_Compare1 (wpAny_Name (wpAny_loadName_free hk hks hcl hcell (wpAny_List (wpAny_items_nil ⟨Nat.zero_le _, ?_⟩))) rfl) (by rfl))))
  have hS' : (s.heap.push (listO [] 0)).get? S = some (listO vs n) := Heap.get?_push_of_some _ hS
  obtain ⟨as, ra⟩ := (strsD xs).reads (w := w) (ρ := noρ) (F := fun b => if b = S then some (listO vs n) else none) (h := s.heap.push (listO [] 0)) (v := .ref S) (fun b o e => by split at e <;> cases e; rename_i q; rw [q]; exact hS') (.list S _ vs n (if_pos rfl) hv.1 fun i x v h1 h2 => (hv.2 i x v h1 h2).mono (fun _ _ e => by cases e) fun _ _ e => by cases e)
  have hne : (s.heap.push (listO [] 0)).get? s.heap.objs.size = some (listO [] 0) := Heap.get?_push_size _ rfl
  refine SeqAt.compareNe_reads ra (Reads.list hne rfl rfl (by exact ReadsAll.nil)) (lay_strsA xs hlay) rfl (by have := depth_strsA xs; simp only [PyData.depth]; omega) ?_
  refine wpAny_truthy_bool ?_
  rw [eqvS_nil]
  cases xs with
  | nil =>
    rw [if_neg (by simp), if_neg (by simp)]
    exact wpAny_Constant_str (hnil _ _ _ rfl (Nat.le_succ _) fun b o e => Heap.get?_push_of_some _ e)
  | cons x xs' =>
    rw [if_pos (show (!(x :: xs').isEmpty) = true from rfl)]
    refine wpAny_allTrue_And_cons (wpAny_isTrue_Compare1 (wpAny_Name (wpAny_loadName_local hk hkc (hns.push _) hm (wpAny_Constant_int (wpAny_eq_int (wpAny_truthy_bool ?_)))) rfl) (by rfl))
    rw [if_pos (by rfl)]
    refine wpAny_allTrue_And_nil ?_
    rw [if_pos rfl]
    obtain ⟨y, vs', rfl⟩ : ∃ y vs', vs = y :: vs' := by
      cases vs with
      | nil => have := hv.1; simp at this
      | cons y vs' => exact ⟨y, vs', rfl⟩
    have hy : VR w (fun _ => none) noρ (.str x) y := VRs.head hv
    have hvt := VRs.tail (xs := xs'.map MV.str) hv
    obtain ⟨t', rfl⟩ : ∃ t', y = .str x t' := by cases hy; exact ⟨_, rfl⟩
    refine methodCall_KW (wpAny_Name (wpAny_loadName_free hk hks hcl (hcell.keeps fun b o e => Heap.get?_push_of_some _ e) ?_) rfl) rfl
    refine getMethod_list_of (items := (Value.str x t' :: vs').toArray) PySem.F.slot_list_pop PySem.F.type_list_pop ⟨_, hS', rfl, n, rfl⟩ ⟨_, hS', rfl⟩ ?_
    refine callWith_of (P := Kept (.builtin "list.pop")) rfl (fun h k => k _) (evalArgs_list rfl ?_)
    refine wpAny_items_cons (wpAny_Constant_int (wpAny_items_nil ?_)) rfl
    refine ⟨kept_builtin, ?_⟩
    refine call_meets PySem.F.slot_list_pop ⟨_, hS', rfl⟩ PySem.F.entry_list_pop (PySem.F.args_list_pop_2 _ _) (MeetsSeq.list_pop_at S (Value.str x t' :: vs').toArray n 0 _ 0 (.str x t') (by decide) (by unfold seqIndex?; simp) (by simp) (by have := hv.1; simp at this; show _ ≤ 16777216; simp; have : (x :: xs').length ≤ 16777216 := hsz; simp at this; omega)) ⟨hS', ?_⟩
    obtain ⟨n', e'⟩ : ∃ n', Obj.mapSeq (fun xs => xs.eraseIdxIfInBounds 0) (listO (Value.str x t' :: vs') n) = listO vs' n' := ⟨_, by
      unfold Obj.mapSeq listO
      dsimp only
      rw [show (Value.str x t' :: vs').toArray.eraseIdxIfInBounds 0 = vs'.toArray by simp [Array.eraseIdxIfInBounds]]⟩
    refine hcons _ _ t' x xs' vs' n' rfl (Nat.le_trans (Nat.le_succ s.toks) (Nat.le_succ (s.toks + 1))) (fun b o hb e => ?_) ?_ hvt
    · exact ((Heap.SameBut.update ..).2 b hb).trans (Heap.get?_push_of_some _ e)
    · rw [Heap.get?_update_self _ hS' (by rw [e']; rfl), e']
end

/-- an instance of an own class -/
noncomputable def InsAt (C : Addr) (h : Heap) (x d : Addr) (mA : Str → Option Value) : Prop :=
  (∃ o, h.get? x = some o ∧ o.cls = .ref C ∧ (∀ c, o.data ≠ .cls c) ∧ o.dict = some d) ∧ d ≠ x ∧ h.Ns1 d mA ∧ h.ExactDictFk d
theorem InsAt.fk {C : Addr} {h : Heap} {x d : Addr} {mA : Str → Option Value} (I : InsAt C h x d mA) : h.InstFk x C mA :=
  let ⟨⟨o, h1, h2, h3, h4⟩, h5, h6, h7⟩ := I; ⟨o, h1, h2, h3, .inr ⟨d, h4, h5, h6, h7⟩⟩
theorem InsAt.at {C : Addr} {h h' : Heap} {x d : Addr} {mA : Str → Option Value} (I : InsAt C h x d mA) (hx : ∀ o, h.get? x = some o → h'.get? x = some o) (hd : ∀ o, h.get? d = some o → h'.get? d = some o) : InsAt C h' x d mA :=
  let ⟨⟨o, h1, h2, h3, h4⟩, h5, h6, h7⟩ := I; ⟨⟨o, hx _ h1, h2, h3, h4⟩, h5, h6.at hd, h7.at hd⟩
structure LX where
  x : Addr
  d : Addr
  P : Addr
  st : Addr
  sd : Addr
  S : Addr
  cel : Addr
  lam : Addr
  cd : Addr
noncomputable def LX.fp (X : LX) : List Addr := [X.x, X.d, X.P, X.st, X.sd, X.S, X.cel, X.lam, X.cd]
noncomputable def wsLex : Str := "\n\t\r "
noncomputable def lexNames : List Str := ["lineno", "instream", "whitespace", "pushback"]
structure LexMap (X : LX) (line : Int) (m : Str → Option Value) : Prop where
  line : ∃ t, m "lineno" = some (.int line t)
  ins : m "instream" = some (.ref X.st)
  ws : ∃ t, m "whitespace" = some (.str wsLex t)
  push : m "pushback" = some (.ref X.P)
  none : ∀ n, n ∉ lexNames → m n = none
structure LexAt (C : Addr) (w : World) (h : Heap) (X : LX) (line : Int) (push xs : List Str) : Prop where
  nodup : X.fp.Nodup
  ins : ∃ m, InsAt C h X.x X.d m ∧ LexMap X line m
  str : ∃ m, InsAt C h X.st X.sd m ∧ m "read" = some (.ref X.lam)
  push : ∃ vs n, h.get? X.P = some (listO vs n) ∧ VRs w (fun _ => none) noρ (push.map .str) vs
  chars : ∃ vs n, h.get? X.S = some (listO vs n) ∧ VRs w (fun _ => none) noρ (xs.map .str) vs
  cell : h.IsCell X.cel (some (.ref X.S))
  lam : ∃ qual pm ctv, h.get? X.lam = some (kla_obj "<lambda>" qual lamArgs lamBody lamScope [("signs", X.cel)] pm X.cd ctv) ∧ h.CodeRec (.ref X.cd) qual
theorem LexAt.at {C : Addr} {w : World} {h h' : Heap} {X : LX} {line : Int} {push xs : List Str} (L : LexAt C w h X line push xs) (hk : ∀ a ∈ X.fp, h'.get? a = h.get? a) : LexAt C w h' X line push xs := by
  have k : ∀ a ∈ X.fp, ∀ o, h.get? a = some o → h'.get? a = some o := fun a ha o e => (hk a ha).trans e
  obtain ⟨m, i1, i2⟩ := L.ins
  obtain ⟨m', j1, j2⟩ := L.str
  obtain ⟨vs, n, p1, p2⟩ := L.push
  obtain ⟨us, n', c1, c2⟩ := L.chars
  obtain ⟨o, e1, e2⟩ := L.cell
  obtain ⟨q, pm, ctv, l1, c, oc, fs, t, l2, l3, l4⟩ := L.lam
  cases l2
  exact ⟨L.nodup, ⟨m, i1.at (k _ (by simp [LX.fp])) (k _ (by simp [LX.fp])), i2⟩, ⟨m', j1.at (k _ (by simp [LX.fp])) (k _ (by simp [LX.fp])), j2⟩, ⟨vs, n, k _ (by simp [LX.fp]) _ p1, p2⟩, ⟨us, n', k _ (by simp [LX.fp]) _ c1, c2⟩,
    ⟨o, k _ (by simp [LX.fp]) _ e1, e2⟩, ⟨q, pm, ctv, k _ (by simp [LX.fp]) _ l1, _, oc, fs, t, rfl, k _ (by simp [LX.fp]) _ l3, l4⟩⟩
noncomputable def lexE (C : Addr) (X : LX) (line : Int) (push xs : List Str) : Ext where
  rel := fun w _ _ fp h => fp = X.fp ∧ LexAt C w h X line push xs
  mono := fun _ _ _ _ _ _ _ _ _ r => r
  stab := fun _ _ _ _ _ _ hk r => ⟨r.1, r.2.at fun a ha => hk a (r.1 ▸ ha)⟩
  nor := fun _ _ _ _ _ r => r
structure LexCls (hB : Heap) (C N fi fr fg fq : Addr) (mN : Str → Option Value) : Prop where
  cls : ClsAt hB C N mN
  quiet : ∀ n ∈ (["__getattribute__", "__getattr__", "__setattr__", "lineno", "instream", "whitespace", "pushback", "read"] : List Str), mN n = none
  mi : mN "__init__" = some (.ref fi)
  mr : mN "_read_char" = some (.ref fr)
  mg : mN "get_token" = some (.ref fg)
  mq : mN "push_token" = some (.ref fq)

noncomputable def IsFnC (hB : Heap) (f : Addr) (qual : Str) (st : Stmt) : Prop := ∃ od osl pm cdv ct doc,
  hB.get? f = some ⟨.type "function", od, .func (fnOf (fName st) qual (fArgs st) (fBody st) (fScope st) .none .none doc pm none cdv ct), osl⟩ ∧ hB.CodeRec cdv qual
theorem IsFnC.fn {hB : Heap} {f : Addr} {qual : Str} {st : Stmt} (h : IsFnC hB f qual st) : IsFn hB f qual st := let ⟨od, osl, pm, cdv, ct, doc, h1, h2⟩ := h; ⟨_, od, osl, pm, cdv, ct, doc, h1, h2⟩
section
variable {prog : Program} {w : World} {Γ : Cx} {K : Kp} {σ : St} {ps : List (MV × Value)} {s : Shared} {C : Addr} {X : LX} {line : Int} {push xs : List Str} {k : Nat}
theorem Rel.lex (r : Rel prog w Γ K σ ps s) (hk : ObjAt σ k (.ext (lexE C X line push xs))) : LexAt C w s.heap X line push xs ∧ (∀ b o, Γ.hB b = some o → s.heap.get? b = some o) ∧ (∀ b o, Γ.hB b = some o → b ∉ X.fp) ∧ Γ.Ok prog w := by
  obtain ⟨F, m, cm, fps, C'⟩ := r
  obtain ⟨fp, hfp, hor⟩ := C'.trk k _ hk
  cases hor with
  | ext _ _ _ hh =>
    obtain ⟨rfl, hL⟩ := hh
    exact ⟨hL, fun b o e => C'.frz b o (C'.base b o e), fun b o e hb => C'.frzH b o (C'.base b o e) (C'.mem_hot hk hfp hb), C'.ok⟩
/-- the lexer has turned -/
theorem Rel.lexTo (r : Rel prog w Γ K σ ps s) (hk : ObjAt σ k (.ext (lexE C X line push xs))) {line' : Int} {push' xs' : List Str} {h' : Heap} (hs : ∀ b x, b ∉ X.fp → s.heap.get? b = some x → h'.get? b = some x) (hl : LexAt C w h' X line' push' xs') (t : Nat) (ht : s.toks ≤ t) :
    Rel prog w Γ K { σ with objs := σ.objs.set k (some (.ext (lexE C X line' push' xs'))) } ps { s with heap := h', toks := t } := by
  obtain ⟨F, m, cm, fps, C'⟩ := r
  obtain ⟨fp, hfp, hor⟩ := C'.trk k _ hk
  cases hor with
  | ext _ _ _ hh =>
    obtain ⟨rfl, hL⟩ := hh
    have hF : ∀ b x, F b = some x → h'.get? b = some x := fun b x e => hs b x (fun q => C'.frzH b x e (C'.mem_hot hk hfp q)) (C'.frz b x e)
    refine ⟨F, m, cm, fps, C'.turnObj hk hfp hs (fun a ha => ?_) (Sub.refl F) hF (fun _ _ e => .inl e) (.ext (lexE C X line' push' xs') X.fp h' (show _ ∧ _ from ⟨rfl, hl⟩)) (fun _ e => by cases e) t ht⟩
    have : ∀ a ∈ X.fp, ∃ x, h'.get? a = some x := by
      obtain ⟨m, ⟨⟨o, i1, _⟩, _, ⟨o2, _, _, i2, _⟩, _⟩, _⟩ := hl.ins
      obtain ⟨m', ⟨⟨o3, i3, _⟩, _, ⟨o4, _, _, i4, _⟩, _⟩, _⟩ := hl.str
      obtain ⟨vs, n, p1, _⟩ := hl.push
      obtain ⟨us, n', c1, _⟩ := hl.chars
      obtain ⟨o5, e1, _⟩ := hl.cell
      obtain ⟨q, pm, ctv, l1, c, oc, fs, t, l2, l3, l4⟩ := hl.lam
      cases l2
      intro a ha
      simp only [LX.fp, List.mem_cons, List.not_mem_nil, or_false] at ha
      rcases ha with rfl | rfl | rfl | rfl | rfl | rfl | rfl | rfl | rfl
      · exact ⟨_, i1⟩
      · exact ⟨_, i2⟩
      · exact ⟨_, p1⟩
      · exact ⟨_, i3⟩
      · exact ⟨_, i4⟩
      · exact ⟨_, c1⟩
      · exact ⟨_, e1⟩
      · exact ⟨_, l1⟩
      · exact ⟨_, l3⟩
    exact this a ha

noncomputable abbrev lexGet (X : LX) (line : Int) : List (Str × MV) := [("lineno", .int line), ("instream", .obj (.ref X.st)), ("whitespace", .str wsLex), ("pushback", .obj (.ref X.P))]
theorem lexGet_val {m : Str → Option Value} (M : LexMap X line m) {name : Str} {mv : MV} (hm : Lk name mv (lexGet X line)) : ∃ v, m name = some v ∧ handedOut v = pure v ∧ Flat1 mv v ∧ name ∈ lexNames := by
  rcases hm with _ | ⟨_, _ | ⟨_, _ | ⟨_, _ | ⟨_, h⟩⟩⟩⟩
  · obtain ⟨t, e⟩ := M.line; exact ⟨_, e, rfl, .int _ _, by decide⟩
  · exact ⟨_, M.ins, rfl, .obj _, by decide⟩
  · obtain ⟨t, e⟩ := M.ws; exact ⟨_, e, rfl, .str _ _, by decide⟩
  · exact ⟨_, M.push, rfl, .obj _, by decide⟩
  · cases h
theorem obj_lookup : ∀ n ∈ (["lineno", "instream", "whitespace", "pushback", "read", "_read_char", "get_token", "push_token"] : List Str), typeLookup (.type "object") n = pure none := by
  intro n hn
  simp only [List.mem_cons, List.not_mem_nil, or_false] at hn
  rcases hn with rfl | rfl | rfl | rfl | rfl | rfl | rfl | rfl <;> (rw [typeLookup_type, builtinLookup_eq_fast]; kernel_rfl)
theorem lexNames_sub : ∀ n ∈ lexNames, n ∈ (["__getattribute__", "__getattr__", "__setattr__", "lineno", "instream", "whitespace", "pushback", "read"] : List Str) ∧ n ∈ (["lineno", "instream", "whitespace", "pushback", "read", "_read_char", "get_token", "push_token"] : List Str) := by decide
variable {hB : Heap} {N fi fr fg fq : Addr} {mN : Str → Option Value} {Q : MV → St → Prop} {QB : Bool → St → Prop} {QF : MF → St → Prop}
theorem wp_lexAttr {n name : Str} {np pos : Pos} {mv : MV} (L : LexCls hB C N fi fr fg fq mN) (hΓ : ∀ b o, hB.get? b = some o → Γ.hB b = some o) (hk : ObjAt σ k (.ext (lexE C X line push xs))) (hn : Lk n (.obj (.ref X.x)) σ.loc) (hm : Lk name mv (lexGet X line)) (h : Q mv σ) :
    WPe prog w Γ σ (.Attribute (.Name n np) name pos) Q := by
  intro K ps s R r hR
  refine Attribute_name ((wp_name (Q := fun mv σ' => mv = .obj (.ref X.x) ∧ σ' = σ) hn rfl ⟨rfl, rfl⟩) K ps s _ r fun mv' v σ' s₁ hq r₁ => ?_)
  obtain ⟨rfl, rfl⟩ := hq
  obtain rfl := r₁.obj
  obtain ⟨A, hF, _, _⟩ := r₁.lex hk
  obtain ⟨m, I, M⟩ := A.ins
  obtain ⟨v, e1, e2, e3, e4⟩ := lexGet_val M hm
  have X' := L.cls.keeps fun b o e => hF b o (hΓ b o e)
  obtain ⟨nm, q, bs, sn, sub, col, dd, k0, k1, k2, k3, k5, hC⟩ := X'.obj
  obtain ⟨q1, q2⟩ := lexNames_sub _ e4
  have r₂ := (r₁.drop.toks (s₁.toks + 1)).flat e3
  obtain ⟨hp, g, d, t, os⟩ := s₁
  exact load_attrFk hC X'.ns (L.quiet _ (by decide)) (L.quiet _ q1) (obj_lookup _ q2) I.fk e1 e2 (hR _ _ _ _ h r₂)
/-- the stream's read -/
theorem wm_read {QM : Value → List MV → St → Prop} (L : LexCls hB C N fi fr fg fq mN) (hΓ : ∀ b o, hB.get? b = some o → Γ.hB b = some o) (hk : ObjAt σ k (.ext (lexE C X line push xs))) (h : QM (.ref X.lam) [] σ) : WPm prog w Γ σ (.obj (.ref X.st)) "read" QM := by
  intro pl K ps v s R r hR
  obtain rfl := r.obj
  obtain ⟨A, hF, _, _⟩ := r.lex hk
  obtain ⟨m, I, e1⟩ := A.str
  have X' := L.cls.keeps fun b o e => hF b o (hΓ b o e)
  obtain ⟨nm, q, bs, sn, sub, col, dd, k0, k1, k2, k3, k5, hC⟩ := X'.obj
  have r₂ := r.drop.toks (s.toks + 1)
  obtain ⟨hp, g, d, t, os⟩ := s
  exact gm_own hC X'.ns (L.quiet _ (by decide)) (L.quiet _ (by decide)) (L.quiet _ (by decide)) (obj_lookup _ (by decide)) I.fk e1 rfl (hR _ [] [] _ _ h rfl r₂)
/-- a method of the lexer -/
theorem wm_meth {QM : Value → List MV → St → Prop} {name : Str} {f : Addr} {qual : Str} {st : Stmt} (L : LexCls hB C N fi fr fg fq mN) (hΓ : ∀ b o, hB.get? b = some o → Γ.hB b = some o) (hk : ObjAt σ k (.ext (lexE C X line push xs))) (hf : mN name = some (.ref f)) (hfo : IsFnC hB f qual st) (hn : name ∉ lexNames) (hB' : typeLookup (.type "object") name = pure none)
    (h : QM (.ref f) [.obj (.ref X.x)] σ) : WPm prog w Γ σ (.obj (.ref X.x)) name QM := by
  intro pl K ps v s R r hR
  obtain rfl := r.obj
  obtain ⟨A, hF, _, _⟩ := r.lex hk
  obtain ⟨m, I, M⟩ := A.ins
  have X' := L.cls.keeps fun b o e => hF b o (hΓ b o e)
  obtain ⟨nm, q, bs, sn, sub, col, dd, k0, k1, k2, k3, k5, hC⟩ := X'.obj
  obtain ⟨od, osl, pm, cdv, ct, doc, h1, h2⟩ := hfo
  have r₂ := r
  obtain ⟨hp, g, d, t, os⟩ := s
  exact method_ofFk hC X'.ns (L.quiet _ (by decide)) (L.quiet _ (by decide)) hf (hF _ _ (hΓ _ _ h1)) rfl hB' I.fk (M.none _ hn) (hR _ [.obj (.ref X.x)] [.ref X.x] _ _ h rfl r₂)
end

section
variable {w : World} {Γ : Cx} {K : Kp} {σ : St} {ps : List (MV × Value)} {s : Shared} {C : Addr} {X : LX} {line : Int} {push xs : List Str} {k : Nat}
variable {hB : Heap} {N fi fr fg fq : Addr} {mN : Str → Option Value} {Q : MV → St → Prop} {QB : Bool → St → Prop} {QF : MF → St → Prop}
theorem LX.ne {X : LX} (h : X.fp.Nodup) {i j : Nat} {a b : Addr} (hi : X.fp[i]? = some a) (hj : X.fp[j]? = some b) (hij : i ≠ j) : a ≠ b := fun e => hij (by
  subst e
  exact (List.getElem?_inj (by rw [List.getElem?_eq_some_iff] at hi; exact hi.1) h).mp (hi.trans hj.symm))
/-- another list of strs at P -/
theorem LexAt.setP {h h' : Heap} (A : LexAt C w h X line push xs) {push' : List Str} {vs : List Value} {n : Nat} (hs : ∀ b o, b ≠ X.P → h.get? b = some o → h'.get? b = some o) (hP : h'.get? X.P = some (listO vs n)) (hv : VRs w (fun _ => none) noρ (push'.map .str) vs) : LexAt C w h' X line push' xs := by
  have ne : ∀ i a, X.fp[i]? = some a → i ≠ 2 → a ≠ X.P := fun i a hi h2 => LX.ne A.nodup hi rfl h2
  obtain ⟨m, i1, i2⟩ := A.ins
  obtain ⟨m', j1, j2⟩ := A.str
  obtain ⟨us, n', c1, c2⟩ := A.chars
  obtain ⟨o, e1, e2⟩ := A.cell
  obtain ⟨q, pm, ctv, l1, c, oc, fs, t, l2, l3, l4⟩ := A.lam
  cases l2
  exact ⟨A.nodup, ⟨m, i1.at (fun o e => hs _ o (ne 0 _ rfl (by decide)) e) (fun o e => hs _ o (ne 1 _ rfl (by decide)) e), i2⟩, ⟨m', j1.at (fun o e => hs _ o (ne 3 _ rfl (by decide)) e) (fun o e => hs _ o (ne 4 _ rfl (by decide)) e), j2⟩, ⟨vs, n, hP, hv⟩, ⟨us, n', hs _ _ (ne 5 _ rfl (by decide)) c1, c2⟩,
    ⟨o, hs _ _ (ne 6 _ rfl (by decide)) e1, e2⟩, ⟨q, pm, ctv, hs _ _ (ne 7 _ rfl (by decide)) l1, _, oc, fs, t, rfl, hs _ _ (ne 8 _ rfl (by decide)) l3, l4⟩⟩
theorem LexAt.setS {h h' : Heap} (A : LexAt C w h X line push xs) {xs' : List Str} {vs : List Value} {n : Nat} (hs : ∀ b o, b ≠ X.S → h.get? b = some o → h'.get? b = some o) (hP : h'.get? X.S = some (listO vs n)) (hv : VRs w (fun _ => none) noρ (xs'.map .str) vs) : LexAt C w h' X line push xs' := by
  have ne : ∀ i a, X.fp[i]? = some a → i ≠ 5 → a ≠ X.S := fun i a hi h2 => LX.ne A.nodup hi rfl h2
  obtain ⟨m, i1, i2⟩ := A.ins
  obtain ⟨m', j1, j2⟩ := A.str
  obtain ⟨us, n', c1, c2⟩ := A.push
  obtain ⟨o, e1, e2⟩ := A.cell
  obtain ⟨q, pm, ctv, l1, c, oc, fs, t, l2, l3, l4⟩ := A.lam
  cases l2
  exact ⟨A.nodup, ⟨m, i1.at (fun o e => hs _ o (ne 0 _ rfl (by decide)) e) (fun o e => hs _ o (ne 1 _ rfl (by decide)) e), i2⟩, ⟨m', j1.at (fun o e => hs _ o (ne 3 _ rfl (by decide)) e) (fun o e => hs _ o (ne 4 _ rfl (by decide)) e), j2⟩, ⟨us, n', hs _ _ (ne 2 _ rfl (by decide)) c1, c2⟩, ⟨vs, n, hP, hv⟩,
    ⟨o, hs _ _ (ne 6 _ rfl (by decide)) e1, e2⟩, ⟨q, pm, ctv, hs _ _ (ne 7 _ rfl (by decide)) l1, _, oc, fs, t, rfl, hs _ _ (ne 8 _ rfl (by decide)) l3, l4⟩⟩
theorem LexAt.grow {h h' : Heap} (A : LexAt C w h X line push xs) (hs : ∀ b o, h.get? b = some o → h'.get? b = some o) : LexAt C w h' X line push xs := by
  obtain ⟨us, n', c1, c2⟩ := A.push
  exact A.setP (fun b o _ => hs b o) (hs _ _ c1) c2
theorem LexAt.sizes {h : Heap} (A : LexAt C w h X line push xs) : ∃ vs n, h.get? X.P = some (listO vs n) ∧ vs.length = push.length ∧ VRs w (fun _ => none) noρ (push.map .str) vs := by
  obtain ⟨us, n', c1, c2⟩ := A.push
  exact ⟨us, n', c1, by simpa using c2.1, c2⟩
theorem wb_push (hz : push.length ≤ 1000) (hk : ObjAt σ k (.ext (lexE C X line push xs))) (h : QB (!push.isEmpty) σ) : WB1 pr w Γ σ (.obj (.ref X.P)) truthy QB := by
  intro K ps v s R r hR
  obtain rfl := r.obj
  obtain ⟨A, _, _, _⟩ := r.lex hk
  obtain ⟨vs, n, h1, h2, _⟩ := A.sizes
  refine wpAny_truthy_list (items := vs.toArray) ⟨_, h1, rfl, n, rfl⟩ (by rw [List.size_toArray, h2]; omega) ?_
  rw [show (!vs.toArray.isEmpty) = !push.isEmpty by cases vs <;> cases push <;> simp_all]
  exact hR _ _ _ h (r.drop.toks _)
theorem wm_list {QM : Value → List MV → St → Prop} {name : Str} {id : String} (hk : ObjAt σ k (.ext (lexE C X line push xs))) (slot : Slot "list" name id) (hty : typeOf (.builtin id) = pure (.type "method_descriptor")) (h : QM (.builtin id) [.obj (.ref X.P)] σ) : WPm pr w Γ σ (.obj (.ref X.P)) name QM := by
  intro pl K ps v s R r hR
  obtain rfl := r.obj
  obtain ⟨A, _, _, _⟩ := r.lex hk
  obtain ⟨vs, n, h1, h2, _⟩ := A.sizes
  exact getMethod_list_of (items := vs.toArray) slot hty ⟨_, h1, rfl, n, rfl⟩ ⟨_, h1, rfl⟩ (hR _ [.obj (.ref X.P)] [.ref X.P] _ _ h rfl r)
theorem wc_pop0 {x : Str} {push' : List Str} (hz : push.length ≤ 1000) (hp : push = x :: push') (hk : ObjAt σ k (.ext (lexE C X line push xs))) (h : Q (.str x) { σ with objs := σ.objs.set k (some (.ext (lexE C X line push' xs))) }) : WPc pr w Γ σ (.builtin "list.pop") [.obj (.ref X.P), .int 0] Q := by
  intro K ps vs s R hl r hR
  obtain ⟨v, u, rfl, r⟩ := r.two hl
  obtain rfl := r.obj
  obtain ⟨t, rfl⟩ := r.drop.int
  obtain ⟨A, _, _, _⟩ := r.lex hk
  obtain ⟨vs, n, h1, h2, h3⟩ := A.sizes
  subst hp
  obtain ⟨y, vs', rfl⟩ : ∃ y vs', vs = y :: vs' := by
    cases vs with
    | nil => simp at h2
    | cons y vs' => exact ⟨y, vs', rfl⟩
  have hy : VR w (fun _ => none) noρ (.str x) y := VRs.head h3
  have hvt := VRs.tail (xs := push'.map MV.str) h3
  obtain ⟨t', rfl⟩ : ∃ t', y = .str x t' := by cases hy; exact ⟨_, rfl⟩
  refine ⟨kept_builtin, call_meets PySem.F.slot_list_pop ⟨_, h1, rfl⟩ PySem.F.entry_list_pop (PySem.F.args_list_pop_2 _ _) (MeetsSeq.list_pop_at X.P (Value.str x t' :: vs').toArray n 0 _ 0 (.str x t') (by decide) (by unfold seqIndex?; simp) (by simp) (by show _ ≤ 16777216; simp at h2 hz ⊢; omega)) ⟨h1, ?_⟩⟩
  obtain ⟨n', e'⟩ : ∃ n', Obj.mapSeq (fun xs => xs.eraseIdxIfInBounds 0) (listO (Value.str x t' :: vs') n) = listO vs' n' := ⟨_, by
    unfold Obj.mapSeq listO
    dsimp only
    rw [show (Value.str x t' :: vs').toArray.eraseIdxIfInBounds 0 = vs'.toArray by simp [Array.eraseIdxIfInBounds]]⟩
  have hs : ∀ b o, b ≠ X.P → s.heap.get? b = some o → (s.heap.update X.P (Obj.mapSeq fun xs => xs.eraseIdxIfInBounds 0)).get? b = some o := fun b o hb e => ((Heap.SameBut.update ..).2 b hb).trans e
  refine hR (.str x) (.str x t') _ _ h ((r.drop.drop.lexTo hk (fun b o hb e => hs b o (fun q => hb (by simp [LX.fp, q])) e) (A.setP hs (by rw [Heap.get?_update_self _ h1 (by rw [e']; rfl), e']) hvt) s.toks (Nat.le_refl _)).flat (.str x t'))
theorem wc_app {x : Str} (hz : push.length ≤ 1000) (hk : ObjAt σ k (.ext (lexE C X line push xs))) (h : Q .none { σ with objs := σ.objs.set k (some (.ext (lexE C X line (push ++ [x]) xs))) }) : WPc pr w Γ σ (.builtin "list.append") [.obj (.ref X.P), .str x] Q := by
  intro K ps vs s R hl r hR
  obtain ⟨v, u, rfl, r⟩ := r.two hl
  obtain rfl := r.obj
  obtain ⟨t, rfl⟩ := r.drop.str
  obtain ⟨A, _, _, _⟩ := r.lex hk
  obtain ⟨vs, n, h1, h2, h3⟩ := A.sizes
  refine ⟨kept_builtin, wpAny_list_append_plain (items := vs.toArray) ⟨n, h1⟩ (fun h' hp hs => ?_) (by show _ ≤ 16777216; rw [List.size_toArray, h2]; omega)⟩
  obtain ⟨n', ho⟩ := hp
  rw [List.push_toArray] at ho
  have hs' : ∀ b o, b ≠ X.P → s.heap.get? b = some o → h'.get? b = some o := fun b o hb e => hs.extBut b o hb e
  exact hR .none .none _ _ h ((r.drop.drop.lexTo hk (fun b o hb e => hs' b o (fun q => hb (by simp [LX.fp, q])) e) (A.setP hs' ho (by rw [List.map_append]; exact h3.snoc (.str x t))) s.toks (Nat.le_refl _)).flat .none)
end

section
variable {w : World} {Γ : Cx} {K : Kp} {σ : St} {ps : List (MV × Value)} {s : Shared} {C : Addr} {X : LX} {line : Int} {push xs : List Str} {k : Nat}
variable {hB : Heap} {N fi fr fg fq : Addr} {mN : Str → Option Value} {Q : MV → St → Prop} {QB : Bool → St → Prop} {QF : MF → St → Prop}
/-- the stream tells one sign -/
theorem wc_lam (hlim : hB.NoLimit) (hΓ : ∀ b o, hB.get? b = some o → Γ.hB b = some o) (hu : Γ.A.units + 20 < cLine) (hk : ObjAt σ k (.ext (lexE C X line push xs))) (hz : xs.length ≤ 100000) (hlay : ∀ x ∈ xs, PyData.canLay0 (.str x) = true)
    (h0 : xs = [] → Q (.str Str.empty) σ) (h1 : ∀ x xs', xs = x :: xs' → Q (.str x) { σ with objs := σ.objs.set k (some (.ext (lexE C X line push xs'))) }) : WPc pr w Γ σ (.ref X.lam) [.int 1] Q := by
  intro K ps vs s R hl r hR
  obtain ⟨v, rfl, r⟩ := r.one hl
  obtain ⟨t, rfl⟩ := r.int
  obtain ⟨A, hF, _, ok⟩ := r.lex hk
  obtain ⟨qual, pm, ctv, l1, l2⟩ := A.lam
  have r := r.drop
  refine ⟨kept_fn l1 rfl, wpAny_call (kla_callFunE ok.room l1 rfl rfl rfl rfl l2 ?_)⟩
  rw [show bindArgs (kla_fn "<lambda>" qual lamArgs lamBody lamScope [("signs", X.cel)] pm (.ref X.cd) ctv) ⟨[Value.int 1 t], []⟩ = pure [(("count" : Str), Value.int 1 t)] from rfl]
  refine wpAny_pure (wpAny_newFunctionEnv (show ∀ x ∈ lamScope.names, x.2 ≠ .cell by decide +kernel) (by intro x hx; simp at hx; subst hx; show lamScope.names.lookup ("count" : Str) = _; decide +kernel) (fun h₁ hns hsb => ⟨(hlim.keeps fun b o e => hF b o (hΓ b o e)).fresh _ hsb, ?_⟩) (show lamScope.kind = _ by decide +kernel))
  have hk₁ : ∀ b o, s.heap.get? b = some o → h₁.get? b = some o := fun b o e => hsb.extBut b o (Nat.ne_of_lt (Heap.lt_size e)) (Heap.get?_push_of_some _ e)
  show codeAny _ _ (.expr lamBody (envX qual lamScope s.heap.objs.size X.lam (.ref X.cd) [("signs", X.cel)])) _ _
  have A₁ := A.grow hk₁
  obtain ⟨us, n', c1, c2⟩ := A₁.chars
  have r₁ : Rel pr w Γ K σ ps { s with heap := h₁, toks := s.toks + 1 } := r.grow hk₁ (s.toks + 1)
  have hz' : xs.length ≤ sizeLine := Nat.le_trans hz (by decide)
  refine kla_codeExpr (lam_body (t := t) (xs := xs) (vs := us) (n := n') (S := X.S) (cel := X.cel) (m := fun x => ([("count", .int 1 t)] : List (Str × Value)).reverse.lookup x) rfl (show lamScope.names.lookup ("signs" : Str) = _ by decide +kernel) (show lamScope.names.lookup ("count" : Str) = _ by decide +kernel) rfl A₁.cell c1 c2 hns rfl (by show Γ.A.units + 3 + 10 < cLine; omega) hz' hlay (fun h' tk t' hnil ht hk₂ => ?_) fun h' tk t' x xs' vs' n'' hx ht hk₂ hS hv => ?_)
  · exact hR (.str Str.empty) _ _ _ (h0 hnil) (((r₁.grow (h' := h') hk₂ tk (by have : s.toks + 1 ≤ tk := ht; show s.toks + 1 ≤ tk; omega))).flat (.str _ t'))
  · exact hR (.str x) _ _ _ (h1 x xs' hx) ((r₁.lexTo hk (h' := h') (fun b o hb e => hk₂ b o (fun q => hb (by simp [LX.fp, q])) e) (A₁.setS hk₂ hS hv) tk ht).flat (.str _ t'))
/-- lineno goes on -/
theorem wx_lineno {n : Str} {np ta p pc : Pos} {kc : Nat} (L : LexCls hB C N fi fr fg fq mN) (hΓ : ∀ b o, hB.get? b = some o → Γ.hB b = some o) (hk : ObjAt σ k (.ext (lexE C X line push xs))) (hn : Lk n (.obj (.ref X.x)) σ.loc)
    (h : QF .next { σ with objs := σ.objs.set k (some (.ext (lexE C X (line + 1) push xs))) }) : WPx pr w Γ σ (.AugAssign (.Attribute (.Name n np) "lineno" ta) .Add (.Constant (.int 1) kc pc) p) QF := by
  intro K ps s R r hR
  refine wpAny_AugAssign_AttributeAny ((wp_name (Q := fun mv σ' => mv = .obj (.ref X.x) ∧ σ' = σ) hn rfl ⟨rfl, rfl⟩) K ps s _ r fun mv' v σ' s₁ hq r₁ => ?_)
  obtain ⟨rfl, rfl⟩ := hq
  obtain rfl := r₁.obj
  obtain ⟨A, hF, hnot, _⟩ := r₁.lex hk
  obtain ⟨m, I, M⟩ := A.ins
  obtain ⟨t₀, e1⟩ := M.line
  have X' := L.cls.keeps fun b o e => hF b o (hΓ b o e)
  obtain ⟨nm, q, bs, sn, sub, col, dd, k0, k1, k2, k3, k5, hC⟩ := X'.obj
  have hxC : X.x ≠ C := by
    rintro e
    obtain ⟨nm, q, bs, sn, sub, col, dd, k0, k1, k2, k3, k5, hC₀⟩ := L.cls.obj
    exact hnot C _ (hΓ _ _ hC₀) (by rw [← e]; simp [LX.fp])
  have r₁ := r₁.drop
  obtain ⟨hp, g, d, t, os⟩ := s₁
  refine load_attrFk hC X'.ns (L.quiet _ (by decide)) (L.quiet _ (by decide)) (obj_lookup _ (by decide)) I.fk e1 rfl ?_
  refine wpAny_Constant_int (iadd_int ?_)
  refine wpAny_with_toks (Nat.le_refl _) (store_attrFk (ns := lexNames) PySem.F.store_object hC X'.ns (L.quiet _ (by decide)) (L.quiet _ (by decide)) (obj_lookup _ (by decide)) hxC I.fk (fun h' tk' I' hk' hsame => ?_) (fun y hy => Classical.byContradiction fun q => hy (M.none y q)) (by decide))
  intro ht
  obtain ⟨⟨o, i1, i2, i3, i4⟩, i5, i6, i7⟩ := I
  have hs : ∀ b o, b ≠ X.x → b ≠ X.d → hp.get? b = some o → h'.get? b = some o := fun b o h1 h2 e => hk' b o h1 (fun o₀ d' e₀ ed => by
    obtain rfl := Option.some.inj (i1.symm.trans e₀); obtain rfl := Option.some.inj (i4.symm.trans ed); exact h2) e
  obtain ⟨o₁, s1, s2, s3, s4, s5⟩ := hsame o i1
  have I₁ : InsAt C h' X.x X.d (fun y => if y = "lineno" then some (.int (line + 1) (t + 1 + 1)) else m y) := by
    obtain ⟨o₂, j1, j2, j3, j4⟩ := I'
    obtain rfl := Option.some.inj (s1.symm.trans j1)
    rcases j4 with ⟨j4, _⟩ | ⟨d', j4, j5, j6, j7⟩
    · rw [s5 _ i4] at j4; cases j4
    · obtain rfl := Option.some.inj ((s5 _ i4).symm.trans j4)
      exact ⟨⟨o₁, s1, j2, j3, j4⟩, j5, j6, j7⟩
  have ne : ∀ i a, X.fp[i]? = some a → i ≠ 0 → i ≠ 1 → a ≠ X.x ∧ a ≠ X.d := fun i a hi h2 h3 => ⟨LX.ne A.nodup hi rfl h2, LX.ne A.nodup hi rfl h3⟩
  have A' : LexAt C w h' X (line + 1) push xs := by
    obtain ⟨m', j1, j2⟩ := A.str
    obtain ⟨vs, n, p1, p2⟩ := A.push
    obtain ⟨us, n', c1, c2⟩ := A.chars
    obtain ⟨o, e1, e2⟩ := A.cell
    obtain ⟨q, pm, ctv, l1, c, oc, fs, t, l2, l3, l4⟩ := A.lam
    cases l2
    have go : ∀ i a o, X.fp[i]? = some a → i ≠ 0 → i ≠ 1 → hp.get? a = some o → h'.get? a = some o := fun i a o hi h2 h3 e => hs a o (ne i a hi h2 h3).1 (ne i a hi h2 h3).2 e
    refine ⟨A.nodup, ⟨_, I₁, ?_⟩, ⟨m', j1.at (fun o e => go 3 _ o rfl (by decide) (by decide) e) (fun o e => go 4 _ o rfl (by decide) (by decide) e), j2⟩, ⟨vs, n, go 2 _ _ rfl (by decide) (by decide) p1, p2⟩, ⟨us, n', go 5 _ _ rfl (by decide) (by decide) c1, c2⟩,
      ⟨o, go 6 _ _ rfl (by decide) (by decide) e1, e2⟩, ⟨q, pm, ctv, go 7 _ _ rfl (by decide) (by decide) l1, _, oc, fs, t, rfl, go 8 _ _ rfl (by decide) (by decide) l3, l4⟩⟩
    obtain ⟨t₂, w2⟩ := M.ws
    exact ⟨⟨_, if_pos rfl⟩, (if_neg (by decide)).trans M.ins, ⟨t₂, (if_neg (by decide)).trans w2⟩, (if_neg (by decide)).trans M.push, fun n hn => (if_neg (fun q => hn (by rw [q]; decide))).trans (M.none n hn)⟩
  exact hR .next .next _ _ h ⟨rfl, r₁.lexTo hk (h' := h') (fun b o hb e => hs b o (fun q => hb (by simp [LX.fp, q])) (fun q => hb (by simp [LX.fp, q])) e) A' tk' (by
    have : t + 1 + 1 + 1 ≤ tk' := ht
    show t ≤ tk'; omega)⟩
end


noncomputable def nlS : Str := "\n"
noncomputable def lineOf (line : Int) (c : Str) : Int := if c == nlS then line + 1 else line
theorem sR : ScopeOk (fScope bRead) ((["self"] : List Str) ++ (["ch"] : List Str)) := ⟨rfl, by decide +kernel, by decide +kernel, by decide +kernel⟩
theorem bR : ∀ doc pm cdv ct vs, vs.length = (["self"] : List Str).length → bindArgs (fnOf (fName bRead) "_netrclex._read_char" (fArgs bRead) (fBody bRead) (fScope bRead) .none .none doc pm none cdv ct) ⟨vs, []⟩ = pure ((["self"] : List Str).zip vs) := by intro doc pm cdv ct vs h; match vs, h with | [v], _ => rfl
section
variable {w : World} {hB : Heap} {mg mb : Str → Option Value} {C N fi fr fg fq : Addr} {mN : Str → Option Value} {X : LX} {line : Int} {push xs : List Str}
/-- the head and the rest -/
noncomputable def hd1 : List Str → Str
  | [] => Str.empty
  | x :: _ => x
theorem xf_read (T : TopF hB mg mb) (L : LexCls hB C N fi fr fg fq mN) (hf : IsFn hB fr "_netrclex._read_char" bRead) (hz : xs.length ≤ 100000) (hlay : ∀ x ∈ xs, PyData.canLay0 (.str x) = true) :
    ExtFn pr w 3 hB (.ref fr) [.obj (.ref X.x)] (lexE C X line push xs) (fun v e => v = .str (hd1 xs) ∧ e = lexE C X (lineOf line (hd1 xs)) push xs.tail) := by
  refine ExtFn.of_stmt T hf ["self"] ["ch"] [] bR rfl sR nofun rfl rfl ?_
  intro Γ hΓ
  have hg := hΓ.2.1
  have hu : Γ.A.units + 20 < cLine := by have := hΓ.2.2.2.2.1; omega
  show WPs pr w Γ ⟨[("self", .obj (.ref X.x)), ("ch", .undef)], [some (.ext (lexE C X line push xs))]⟩ _ _
  have hk : ∀ loc line xs, ObjAt ⟨loc, [some (.ext (lexE C X line push xs))]⟩ 0 (.ext (lexE C X line push xs)) := fun _ _ _ => rfl
  have rest : ∀ c xs', hd1 xs = c → xs.tail = xs' → WPs pr w Γ ⟨[("self", .obj (.ref X.x)), ("ch", .str c)], [some (.ext (lexE C X line push xs'))]⟩ ((fBody bRead).drop 1) (fun fl σ => ∃ e' l, σ.objs = some (.ext e') :: l ∧ match fl with | .ret mv => Closed mv ∧ (mv = .str (hd1 xs) ∧ e' = lexE C X (lineOf line (hd1 xs)) push xs.tail) | .next => (MV.none = .str (hd1 xs) ∧ e' = lexE C X (lineOf line (hd1 xs)) push xs.tail) | _ => False) := by
    intro c xs' hc hx
    show WPs pr w Γ _ [_, _] _
    tm_at "x"
    refine ⟨fun hb => ?_, fun hb => ?_⟩
    · refine ws_cons (wx_lineno L hg (hk _ _ _) (by tm_at "lk") ?_)
      tm_at "x"
      exact ⟨_, _, rfl, .str, by rw [hc], by rw [hc, hx]; unfold lineOf; rw [if_pos (show (c == nlS) = true from hb)]⟩
    · tm_at "x"
      exact ⟨_, _, rfl, .str, by rw [hc], by rw [hc, hx]; unfold lineOf; rw [if_neg (by rw [show (c == nlS) = false from hb]; simp)]⟩
  refine ws_cons ?_
  refine' wx_assign ?_ ?hs
  case hs => intro _; rfl
  refine' wp_method ?_ ?he ?hc
  case he => intro _ _; rfl
  case hc => intro _; rfl
  refine wp_lexAttr L hg (hk _ _ _) (by tm_at "lk") (mv := .obj (.ref X.st)) (by tm_at "lk") ?_
  refine wm_read L hg (hk _ _ _) ?_
  tm_at "x"
  refine wc_lam T.nolimit hg hu (hk _ _ _) hz hlay (fun h => ?_) fun x xs' h => ?_
  · subst h
    exact putq_there (putq_here (then_next (rest Str.empty [] rfl rfl)))
  · subst h
    exact putq_there (putq_here (then_next (rest x xs' rfl rfl)))
end


/-- the iterator over the bound _read_char -/
noncomputable def itE (fr x I m : Addr) (live : Bool) : Ext where
  rel := fun _ _ _ fp h => fp = [I, m] ∧ (∃ t, h.get? I = some (if live = true then ciObj (.ref m) (.str Str.empty t) false else ciObj .none .none true)) ∧ h.get? m = some (methodObj (.ref fr) (.ref x))
  mono := fun _ _ _ _ _ _ _ _ _ r => r
  stab := fun _ _ _ _ _ _ hk r => by
    obtain ⟨rfl, ⟨t, r1⟩, r2⟩ := r
    exact ⟨rfl, ⟨t, (hk _ (.head _)).trans r1⟩, (hk _ (.tail _ (.head _))).trans r2⟩
  nor := fun _ _ _ _ _ r => r
section
variable {w : World} {Γ : Cx} {K : Kp} {σ : St} {ps : List (MV × Value)} {s : Shared} {C : Addr} {X : LX} {line : Int} {push xs : List Str} {k : Nat}
variable {hB : Heap} {mg mb : Str → Option Value} {N fi fr fg fq : Addr} {mN : Str → Option Value} {Q : MV → St → Prop} {QB : Bool → St → Prop} {QF : MF → St → Prop}
theorem wx_iter {y n b : Str} (hb : b = Str.empty) {np pa pi pc p py pst : Pos} {kc : Nat} (L : LexCls hB C N fi fr fg fq mN) (hf : IsFnC hB fr "_netrclex._read_char" bRead) (hΓ : ∀ b o, hB.get? b = some o → Γ.hB b = some o) (hk : ObjAt σ k (.ext (lexE C X line push xs))) (hn : Lk n (.obj (.ref X.x)) σ.loc) {gl : List (Str × MV)} (hgl : Γ.glob = gl) (hi : Lk "iter" (.obj (.builtin "iter")) gl)
    (h : ∀ I m, PutQ y (.obj (.ref I)) σ.loc fun l' => QF .next ⟨l', σ.objs ++ [some (.ext (itE fr X.x I m true))]⟩)
    (hc : ∀ env, eval (.Call (.Name "iter" pi) [.Attribute (.Name n np) "_read_char" pa, .Constant (.str b) kc pc] [] p) env = (do callWith p (← eval (.Name "iter" pi) env) [] (backTo p (starEach [.Attribute (.Name n np) "_read_char" pa, .Constant (.str b) kc pc] env)) (backToKw p (keywordEach [] env))))
    (hst : ∀ env, starEach [.Attribute (.Name n np) "_read_char" pa, .Constant (.str b) kc pc] env = (false, eval (.Attribute (.Name n np) "_read_char" pa) env) :: starEach [.Constant (.str b) kc pc] env)
    (hs : ∀ env, swapsWith (.Call (.Name "iter" pi) [.Attribute (.Name n np) "_read_char" pa, .Constant (.str b) kc pc] [] p) (some (.Name y py)) pst.line env = pure false) :
    WPx pr w Γ σ (.Assign [.Name y py] (.Call (.Name "iter" pi) [.Attribute (.Name n np) "_read_char" pa, .Constant (.str b) kc pc] [] p) pst) QF := by
  subst hb
  intro K ps s R r hR
  refine wpAny_Assign_Name ?_ (hs _)
  rw [hc]
  refine wpAny_bind (wp_globE (Q := fun mv σ' => mv = .obj (.builtin "iter") ∧ σ' = σ) hgl hi ⟨rfl, rfl⟩ K ps s _ r fun fv v σ₁ s₁ h₁ r₁ => ?_)
  obtain ⟨rfl, rfl⟩ := h₁
  obtain rfl := r₁.obj
  have r₁ := r₁.drop
  refine callWith_of (P := Kept (.builtin "iter")) (by rw [hst]; rfl) (fun h k => k _) (evalArgs_list (by rw [hst]; rfl) ?_)
  refine wpAny_items_cons (Attribute_name ((wp_name (Q := fun mv σ' => mv = .obj (.ref X.x) ∧ σ' = σ₁) hn rfl ⟨rfl, rfl⟩) K ps s₁ _ r₁ fun mv' v σ₂ s₂ hq r₂ => ?_)) (hst _)
  obtain ⟨rfl, rfl⟩ := hq
  obtain rfl := r₂.obj
  have r₂ := r₂.drop
  obtain ⟨A, hF, _, _⟩ := r₂.lex hk
  obtain ⟨m, I, M⟩ := A.ins
  have X' := L.cls.keeps fun b o e => hF b o (hΓ b o e)
  obtain ⟨nm, q, bs, sn, sub, col, dd, k0, k1, k2, k3, k5, hC⟩ := X'.obj
  obtain ⟨od, osl, pm, cdv, ct, doc, f1, f2⟩ := hf
  obtain ⟨hp, g, d, t, os⟩ := s₂
  refine ga_bound hC X'.ns (L.quiet _ (by decide)) (L.quiet _ (by decide)) L.mr (hF _ _ (hΓ _ _ f1)) rfl (obj_lookup _ (by decide)) I.fk (fun o e => by obtain ⟨⟨o', i1, _, _, i4⟩, _⟩ := I; rw [i1] at e; cases e; rw [i4]; simp) (by decide) (M.none _ (by decide)) ?_
  refine wpAny_items_cons (wpAny_Constant_str (wpAny_items_nil ?_)) rfl
  refine ⟨kept_builtin, call_iter2 (m := hp.objs.size) (f := .ref fr) (x := .ref X.x) (Heap.get?_push_size _ rfl) ?_⟩
  obtain ⟨F, m, cm, fps, Co⟩ := r₂
  obtain ⟨l', hput, h₁⟩ := h ((hp.push (methodObj (.ref fr) (.ref X.x))).objs.size) hp.objs.size
  have hsz : (hp.push (methodObj (.ref fr) (.ref X.x))).objs.size = hp.objs.size + 1 := Heap.size_push ..
  have hnone : ∀ b, hp.objs.size ≤ b → hp.get? b = none := fun b hb => by
    cases q : hp.get? b with
    | none => rfl
    | some o => exact absurd (Heap.lt_size q) (Nat.not_lt.mpr hb)
  have g1 : ((hp.push (methodObj (.ref fr) (.ref X.x))).push (ciObj (.ref hp.objs.size) (.str Str.empty (t + 1)) false)).get? (hp.push (methodObj (.ref fr) (.ref X.x))).objs.size = some (ciObj (.ref hp.objs.size) (.str Str.empty (t + 1)) false) := Heap.get?_push_size _ rfl
  have g2 : ((hp.push (methodObj (.ref fr) (.ref X.x))).push (ciObj (.ref hp.objs.size) (.str Str.empty (t + 1)) false)).get? hp.objs.size = some (methodObj (.ref fr) (.ref X.x)) := Heap.get?_push_of_some _ (Heap.get?_push_size _ rfl)
  have C' := Co.addObj (o := .ext (itE fr X.x ((hp.push (methodObj (.ref fr) (.ref X.x))).objs.size) hp.objs.size true)) (fp := [(hp.push (methodObj (.ref fr) (.ref X.x))).objs.size, hp.objs.size]) (h' := (hp.push (methodObj (.ref fr) (.ref X.x))).push (ciObj (.ref hp.objs.size) (.str Str.empty (t + 1)) false)) (fun b x e => Heap.get?_push_of_some _ (Heap.get?_push_of_some _ e)) (by simp [hsz]) (fun a ha => by
      simp only [List.mem_cons, List.not_mem_nil, or_false] at ha
      rcases ha with rfl | rfl
      · exact hnone _ (by rw [hsz]; exact Nat.le_succ _)
      · exact hnone _ (Nat.le_refl _))
    (fun a ha => by
      simp only [List.mem_cons, List.not_mem_nil, or_false] at ha
      rcases ha with rfl | rfl
      · exact ⟨_, g1⟩
      · exact ⟨_, g2⟩) (.ext _ _ _ (show _ ∧ _ ∧ _ from ⟨rfl, ⟨t + 1, by rw [if_pos rfl]; exact g1⟩, g2⟩)) (t + 1 + 1)
  exact WP1.to_store (σ := { σ₂ with objs := σ₂.objs ++ [some (.ext (itE fr X.x _ _ true))] }) (mv := .obj _) (QU := fun σ => QF .next σ) hput h₁ K ps _ _ _ ⟨F, m, cm, _, C'.cons (.obj _)⟩ fun σ₃ s₃ h₃ r₃ => hR .next .next σ₃ s₃ h₃ ⟨rfl, r₃⟩
end

section
variable {w : World} {Γ : Cx} {K : Kp} {σ : St} {ps : List (MV × Value)} {s : Shared}
variable {hB : Heap} {mg mb : Str → Option Value} {C N fi fr fg fq : Addr} {mN : Str → Option Value} {X : LX} {push : List Str} {QF : MF → St → Prop}
/-- a loop over the signs that are left -/
noncomputable def WPfC (w : World) (Γ : Cx) (C : Addr) (X : LX) (fr : Addr) (push : List Str) (I m : Addr) (k kI : Nat) (y : Str) (body : List Stmt) (QF : MF → St → Prop) : Nat → St → Prop
  | 0, _ => False
  | n + 1, σ => ∃ line xs live, ObjAt σ k (.ext (lexE C X line push xs)) ∧ ObjAt σ kI (.ext (itE fr X.x I m live)) ∧ xs.length ≤ 100000 ∧ (∀ x ∈ xs, PyData.canLay0 (.str x) = true ∧ (Str.empty == x) = false) ∧
      (live = false → QF .next σ) ∧
      (live = true → xs = [] → QF .next ⟨σ.loc, σ.objs.set kI (some (.ext (itE fr X.x I m false)))⟩) ∧
      (live = true → ∀ x xs', xs = x :: xs' → PutQ y (.str x) σ.loc fun l' => WPs pr w Γ ⟨l', σ.objs.set k (some (.ext (lexE C X (lineOf line x) push xs')))⟩ body (turn (WPfC w Γ C X fr push I m k kI y body QF n) QF))
theorem set_same {os : List (Option MO)} {k : Nat} {o : MO} (h : os[k]? = some (some o)) : os.set k (some o) = os := by
  refine List.ext_getElem? fun i => ?_
  rw [List.getElem?_set]
  split
  · rename_i e; subst e
    have : k < os.length := (List.getElem?_eq_some_iff.mp h).1
    rw [if_pos this, h]
  · rfl
theorem forC_next {ℓ : Nat} {sc : Scope} {gl : List (Str × MV)} {I m : Addr} {k kI : Nat} (T : TopF hB mg mb) (L : LexCls hB C N fi fr fg fq mN) (hf : IsFnC hB fr "_netrclex._read_char" bRead) (hΓ : Γof sc Γ hB ℓ gl) (hℓ : 4 ≤ ℓ) (hki : k ≠ kI)
    {line : Int} {xs : List Str} {live : Bool} (o1 : ObjAt σ k (.ext (lexE C X line push xs))) (o2 : ObjAt σ kI (.ext (itE fr X.x I m live))) (hz : xs.length ≤ 100000) (hlay : ∀ x ∈ xs, PyData.canLay0 (.str x) = true ∧ (Str.empty == x) = false) (r : Rel pr w Γ K σ ps s) {Q : Option Value → Shared → Prop} {E : Value → Shared → Prop}
    (q1 : live = false → ∀ s₂, Rel pr w Γ K σ ps s₂ → Q none s₂) (q2 : live = true → xs = [] → ∀ s₂, Rel pr w Γ K ⟨σ.loc, σ.objs.set kI (some (.ext (itE fr X.x I m false)))⟩ ps s₂ → Q none s₂)
    (q3 : live = true → ∀ x xs', xs = x :: xs' → ∀ u s₂ o, s₂.heap.get? I = some o → (∃ T fs, o.cls = .type T ∧ o.data = .fields fs ∧ owners.contains T = false) → Rel pr w Γ K ⟨σ.loc, σ.objs.set k (some (.ext (lexE C X (lineOf line x) push xs')))⟩ ((.str x, .str x u) :: ps) s₂ → Q (some (.str x u)) s₂) :
    wpAny (model pr w) Γ.A (pyNext (.ref I)) Q E s := by
  obtain ⟨g1, g2, g3, g4, g5, g6, g7⟩ := hΓ
  obtain ⟨F, m', cm, fps, Co⟩ := id r
  obtain ⟨fpI, hfpI, horI⟩ := Co.trk kI _ o2
  have hIr : fpI = [I, m] ∧ (∃ t, s.heap.get? I = some (if live = true then ciObj (.ref m) (.str Str.empty t) false else ciObj .none .none true)) ∧ s.heap.get? m = some (methodObj (.ref fr) (.ref X.x)) := by cases horI with | ext _ _ _ hh => exact hh
  obtain ⟨rfl, ⟨t, hIo⟩, hmo⟩ := hIr
  cases live with
  | false =>
    rw [if_neg (by decide)] at hIo
    exact ci_ended Co.ok.handled hIo fun h' hk' => q1 rfl _ (r.grow hk' s.toks)
  | true =>
    rw [if_pos rfl] at hIo
    obtain ⟨od, osl, pm, cdv, ct, doc, f1, f2⟩ := id hf
    have hfo : s.heap.get? fr = some _ := Co.frz _ _ (Co.base _ _ (g2 _ _ f1))
    obtain ⟨fpL, hfpL, horL⟩ := Co.trk k _ o1
    have hfpX : fpL = X.fp := by cases horL with | ext _ _ _ hh => exact hh.1
    subst hfpX
    obtain ⟨n1, n2⟩ := List.nodup_cons.mp Co.hot
    have apart := alive_apart (List.nodup_append.mp n2).2.1 o2 hfpI o1 hfpL (fun q => hki q.symm)
    have frL : fr ∉ X.fp := fun q => Co.frzH fr _ (Co.base _ _ (g2 _ _ f1)) (Co.mem_hot o1 hfpL q)
    refine ci_next hIo hmo hfo rfl (Core.callExt Co (A := Γ.A.in1) (ℓ := 3) (by show Γ.A.depth + 3 < _; omega) (by show Γ.A.units + 1 + 20 * 3 < _; omega) Co.ok.handled g2 (xf_read T L hf.fn hz fun x hx => (hlay x hx).1) (fun y hy => by simp at hy; subst hy; exact .obj) o1 hfpL (VRs.cons (.obj _) VRs.nil) fun mv v e' s₂ F' hP C' hk₂ => ?_)
    obtain ⟨rfl, rfl⟩ := hP
    have hI₂ := hk₂ I _ (apart I (.head _)) hIo
    have hm₂ := hk₂ m _ (apart m (.tail _ (.head _))) hmo
    have hf₂ := hk₂ fr _ frL hfo
    obtain ⟨u, rfl⟩ : ∃ u, v = .str (hd1 xs) u := by
      have : VR w F' (rho fps) (.str (hd1 xs)) v := C'.ps (.str (hd1 xs), v) (.head _)
      cases this; exact ⟨_, rfl⟩
    refine ⟨hI₂, hd1 xs, u, rfl, ?_⟩
    cases xs with
    | nil =>
      refine .inr ⟨by decide, Co.ok.handled, hm₂, hf₂, fun h' hI' hx' => ?_⟩
      refine q2 rfl rfl _ ⟨F', m', cm, fps, ?_⟩
      have e0 : lineOf line (hd1 []) = line := by unfold lineOf; rw [if_neg (by decide)]
      have C₂ := C'.drop
      rw [e0, show ([] : List Str).tail = [] from rfl] at C₂
      have C₃ : Core pr w Γ K σ ps s₂ F' m' cm fps := by
        have := set_same o1
        rw [this] at C₂; exact C₂
      have hs : ∀ b x, b ∉ [I, m] → s₂.heap.get? b = some x → h'.get? b = some x := fun b x hb e => hx' b x (fun q => hb (by simp [q])) e
      have hmI : m ≠ I := fun q => by
        rw [q, hI₂] at hm₂
        have e : Value.type "callable_iterator" = Value.type "method" := congrArg Obj.cls (Option.some.inj hm₂)
        injection e with e
        exact absurd e (by decide)
      have hm' : h'.get? m = some (methodObj (.ref fr) (.ref X.x)) := hx' m _ hmI hm₂
      exact C₃.turnObj o2 hfpI hs (fun a ha => by
        simp only [List.mem_cons, List.not_mem_nil, or_false] at ha
        rcases ha with rfl | rfl
        · exact ⟨_, hI'⟩
        · exact ⟨_, hm'⟩) (Sub.refl F') (fun b x e => hs b x (fun q => C₃.frzH b x e (C₃.mem_hot o2 hfpI q)) (C₃.frz b x e)) (fun _ _ e => .inl e) (.ext (itE fr X.x I m false) [I, m] h' (show _ ∧ _ ∧ _ from ⟨rfl, ⟨t, by rw [if_neg (by decide)]; exact hI'⟩, hm'⟩)) (fun _ e => by cases e) s₂.toks (Nat.le_refl _)
    | cons x xs' =>
      exact .inl ⟨(hlay x (.head _)).2, q3 rfl x xs' rfl u s₂ _ hI₂ ⟨"callable_iterator", _, rfl, rfl, rfl⟩ ⟨F', m', cm, fps, C'⟩⟩
theorem wx_forC {ℓ : Nat} {sc : Scope} {gl : List (Str × MV)} {x0 y : Str} {tp ip p : Pos} {body : List Stmt} {I m : Addr} {k kI : Nat} (T : TopF hB mg mb) (L : LexCls hB C N fi fr fg fq mN) (hf : IsFnC hB fr "_netrclex._read_char" bRead) (hΓ : Γof sc Γ hB ℓ gl) (hℓ : 4 ≤ ℓ) (hki : k ≠ kI) (hn : Lk x0 (.obj (.ref I)) σ.loc)
    (hit : ObjAt σ kI (.ext (itE fr X.x I m true)) ∨ ObjAt σ kI (.ext (itE fr X.x I m false))) (n : Nat) (h : WPfC w Γ C X fr push I m k kI y body QF n σ) (hs : ∀ env x, foldedSetIterable (.Name x0 ip) env x = pure x := by intro _ _; rfl) :
    WPx pr w Γ σ (.For (.Name y tp) (.Name x0 ip) body [] p) QF := by
  intro K ps s R r hR
  refine wpAny_For ((wp_name (Q := fun mv σ' => mv = .obj (.ref I) ∧ σ' = σ) hn rfl ⟨rfl, rfl⟩) K ps s _ r fun mv' v σ₁ s₁ hq r₁ => ?_) (hs _)
  obtain ⟨rfl, rfl⟩ := hq
  obtain rfl := r₁.obj
  have r₁ := r₁.drop
  have self : ∀ (R' : Value → Shared → Prop), R' (.ref I) s₁ → wpAny (model pr w) Γ.A (pyIter (.ref I)) R' (fun _ _ => False) s₁ := fun R' h' => by
    obtain ⟨F, m', cm, fps, Co⟩ := r₁
    rcases hit with hit | hit <;>
    · obtain ⟨fp, hfp, hor⟩ := Co.trk kI _ hit
      cases hor with | ext _ _ _ hh =>
      obtain ⟨_, ⟨t, e⟩, _⟩ := hh
      first | (rw [if_pos rfl] at e; exact ci_self e h') | (rw [if_neg (by decide)] at e; exact ci_self e h')
  refine self _ ?_
  refine codeAny_forLoop_any (fun n s' => ∃ σ', WPfC w Γ C X fr push I m k kI y body QF n σ' ∧ Rel pr w Γ K σ' ps s') (fun n s' hI => ?_) n ⟨σ₁, h, r₁⟩
  obtain ⟨σ', hw, r'⟩ := hI
  cases n with
  | zero => exact hw.elim
  | succ n =>
    obtain ⟨line, xs, live, o1, o2, hz, hlay, q1, q2, q3⟩ := hw
    refine forC_next T L hf hΓ hℓ hki o1 o2 hz hlay r' (fun e s₂ r₂ => wpAny_execs_nil (hR .next .next σ' _ (q1 e) ⟨rfl, r₂⟩)) (fun e e' s₂ r₂ => wpAny_execs_nil (hR .next .next _ _ (q2 e e') ⟨rfl, r₂⟩)) fun e x xs' e' u s₂ o ho hc r₂ => go_own ho hc ?_
    obtain ⟨l', hput, hb⟩ := q3 e x xs' e'
    refine wpAny_mono (wa_name (Γ := Γ) (σ := { σ' with objs := σ'.objs.set k (some (.ext (lexE C X (lineOf line x) push xs'))) }) (mv := .str x) (QU := fun σ => WPs pr w Γ σ body (turn (WPfC w Γ C X fr push I m k kI y body QF n) QF)) hput hb K ps (.str x u) s₂ (fun (_ : Unit) s₃ => wpAny (model pr w) Γ.A (execs body Γ.env) _ (fun _ _ => False) s₃) r₂ fun σ₃ s₃ h₃ r₃ => ?_) (fun _ s₃ h₃ => wpAny_mono h₃ (fun _ _ q => q) fun _ _ q => q.elim) fun _ _ q => q.elim
    refine h₃ K ps s₃ _ r₃ fun mf f σ₄ s₄ h₄ r₄ => ?_
    cases mf with
    | next => obtain ⟨rfl, r₄⟩ := r₄; exact ⟨n, Nat.lt_succ_self n, σ₄, h₄, r₄⟩
    | cont => obtain ⟨rfl, r₄⟩ := r₄; exact ⟨n, Nat.lt_succ_self n, σ₄, h₄, r₄⟩
    | brk => obtain ⟨rfl, r₄⟩ := r₄; exact hR .next .next σ₄ s₄ h₄ ⟨rfl, r₄⟩
    | ret z => obtain ⟨z', rfl, r₄⟩ := r₄; exact hR (.ret z) _ σ₄ s₄ h₄ ⟨z', rfl, r₄⟩
end


noncomputable def sgl (x : Str) : Prop := PyData.canLay0 (.str x) = true ∧ (Str.empty == x) = false ∧ x.length = 1
noncomputable def isWs (x : Str) : Bool := hasS wsLex x
/-- inside a quoted word -/
noncomputable def lexQ : Nat → Int → List Str → Str → Bool × Int × List Str × Str
  | 0, line, xs, tok => (false, line, xs, tok)
  | _ + 1, line, [], tok => (false, line, [], tok)
  | n + 1, line, x :: xs, tok => if x == "\"" then (true, lineOf line x, xs, tok) else if x == "\\" then lexQ n (lineOf (lineOf line x) (hd1 xs)) xs.tail (tok ++ hd1 xs) else lexQ n (lineOf line x) xs (tok ++ x)
/-- inside a bare word -/
noncomputable def lexB : Nat → Int → List Str → Str → Bool × Int × List Str × Str
  | 0, line, xs, tok => (false, line, xs, tok)
  | _ + 1, line, [], tok => (false, line, [], tok)
  | n + 1, line, x :: xs, tok => if isWs x then (true, lineOf line x, xs, tok) else if x == "\\" then lexB n (lineOf (lineOf line x) (hd1 xs)) xs.tail (tok ++ hd1 xs) else lexB n (lineOf line x) xs (tok ++ x)
noncomputable def lexO : Nat → Int → List Str → Int × List Str × Str
  | 0, line, xs => (line, xs, Str.empty)
  | _ + 1, line, [] => (line, [], Str.empty)
  | n + 1, line, x :: xs => if isWs x then lexO n (lineOf line x) xs else if x == "\"" then (lexQ n (lineOf line x) xs Str.empty).2 else if x == "\\" then (lexB n (lineOf (lineOf line x) (hd1 xs)) xs.tail (Str.empty ++ hd1 xs)).2 else (lexB n (lineOf line x) xs (Str.empty ++ x)).2
theorem sG : ScopeOk (fScope bGet) ((["self"] : List Str) ++ (["token", "fiter", "ch"] : List Str)) := ⟨rfl, by decide +kernel, by decide +kernel, by decide +kernel⟩
theorem bG : ∀ doc pm cdv ct vs, vs.length = (["self"] : List Str).length → bindArgs (fnOf (fName bGet) "_netrclex.get_token" (fArgs bGet) (fBody bGet) (fScope bGet) .none .none doc pm none cdv ct) ⟨vs, []⟩ = pure ((["self"] : List Str).zip vs) := by intro doc pm cdv ct vs h; match vs, h with | [v], _ => rfl
noncomputable abbrev glG : List (Str × MV) := [("iter", .obj (.builtin "iter"))]
noncomputable abbrev locG (X : LX) (I : Addr) (tok : Str) (z : MV) : List (Str × MV) := [("self", .obj (.ref X.x)), ("token", .str tok), ("fiter", .obj (.ref I)), ("ch", z)]
noncomputable def forBody : Option Stmt → List Stmt
  | some (.For _ _ b _ _) => b
  | _ => []
noncomputable def thenB : Option Stmt → List Stmt
  | some (.If _ b _ _) => b
  | _ => []
noncomputable def elseB : Option Stmt → List Stmt
  | some (.If _ _ b _) => b
  | _ => []
noncomputable def outB : List Stmt := forBody (fBody bGet)[3]?
noncomputable def quoB : List Stmt := forBody (thenB outB[1]?)[0]?
noncomputable def barB : List Stmt := forBody (elseB outB[1]?)[2]?
section
variable {w : World} {hB : Heap} {mg mb : Str → Option Value} {C N fi fr fg fq : Addr} {mN : Str → Option Value} {X : LX}
theorem sgl_hd {xs : List Str} (h : ∀ x ∈ xs, sgl x) : (hd1 xs).length ≤ 1 ∧ ∀ x ∈ xs.tail, sgl x := by
  cases xs with
  | nil => exact ⟨Nat.zero_le _, fun _ h => nomatch h⟩
  | cons x xs => exact ⟨Nat.le_of_eq (h x (.head _)).2.2, fun y hy => h y (.tail _ hy)⟩
/-- ch = self._read_char() -/
theorem wx_readch {Γ : Cx} {push : List Str} {line : Int} {xs : List Str} {I m : Addr} {live : Bool} {tok : Str} {z : MV} {q1 q2 q3 q4 q5 : Pos} {QF : MF → St → Prop} (T : TopF hB mg mb) (L : LexCls hB C N fi fr fg fq mN) (hf : IsFnC hB fr "_netrclex._read_char" bRead) {sc : Scope} {gl : List (Str × MV)} (hΓ : Γof sc Γ hB 5 gl) (hz : xs.length ≤ 100000) (hs : ∀ x ∈ xs, sgl x)
    (h : QF .next ⟨locG X I tok (.str (hd1 xs)), [some (.ext (lexE C X (lineOf line (hd1 xs)) push xs.tail)), some (.ext (itE fr X.x I m live))]⟩)
    (hc : ∀ env, eval (.Call (.Attribute (.Name "self" q2) "_read_char" q3) [] [] q4) env = (do
      let ov ← eval (.Name "self" q2) env
      standAt q3.atName
      let (f, first) ← holding [ov] (getMethod ov "_read_char" (do return (← importBound (.Name "self" q2) env).getD true))
      callWith q4 f first (backTo q4 (starEach [] env)) (backToKw q4 (keywordEach [] env))))
    (hsw : ∀ env, swapsWith (.Call (.Attribute (.Name "self" q2) "_read_char" q3) [] [] q4) (some (.Name "ch" q1)) q5.line env = pure false) :
    WPx pr w Γ ⟨locG X I tok z, [some (.ext (lexE C X line push xs)), some (.ext (itE fr X.x I m live))]⟩ (.Assign [.Name "ch" q1] (.Call (.Attribute (.Name "self" q2) "_read_char" q3) [] [] q4) q5) QF := by
  refine wx_assign ?_ hsw
  refine wp_method ?_ (fun _ _ => rfl) hc
  tm_at "x"
  refine wm_meth L hΓ.2.1 (k := 0) (show ObjAt _ 0 _ from rfl) L.mr hf (by decide) (obj_lookup _ (by decide)) ?_
  refine wl_nil ?_
  refine wc_ext hΓ (xf_read T L hf.fn hz fun x hx => (hs x hx).1) hf.fn (by decide) (fun y hy => by simp at hy; subst hy; exact .obj) (k := 0) (show ObjAt _ 0 _ from rfl) fun mv e' hP => ?_
  obtain ⟨rfl, rfl⟩ := hP
  refine putq_there (putq_there (putq_there (putq_here ?_)))
  exact h
theorem quo_loop {Γ : Cx} {push : List Str} {I m : Addr} {QF : MF → St → Prop} (T : TopF hB mg mb) (L : LexCls hB C N fi fr fg fq mN) (hf : IsFnC hB fr "_netrclex._read_char" bRead) (hΓ : Γof (fScope bGet) Γ hB 5 glG) : ∀ (n : Nat) (line : Int) (xs : List Str) (tok : Str) (z : MV), xs.length < n → tok.length + xs.length ≤ 100000 → (∀ x ∈ xs, sgl x) →
    (∀ z line' xs' tok', lexQ n line xs tok = (true, line', xs', tok') → QF (.ret (.str tok')) ⟨locG X I tok' z, [some (.ext (lexE C X line' push xs')), some (.ext (itE fr X.x I m true))]⟩) →
    (∀ z line' xs' tok', lexQ n line xs tok = (false, line', xs', tok') → xs' = [] → QF .next ⟨locG X I tok' z, [some (.ext (lexE C X line' push [])), some (.ext (itE fr X.x I m false))]⟩) →
    WPfC w Γ C X fr push I m 0 1 "ch" quoB QF n ⟨locG X I tok z, [some (.ext (lexE C X line push xs)), some (.ext (itE fr X.x I m true))]⟩ := by
  intro n
  induction n with
  | zero => intro line xs tok z h; exact absurd h (Nat.not_lt_zero _)
  | succ n ih =>
    intro line xs tok z hn hz hs hret hend
    refine ⟨line, xs, true, rfl, rfl, by omega, fun x hx => ⟨(hs x hx).1, (hs x hx).2.1⟩, (fun e => by cases e), fun _ e => ?_, fun _ x xs' e => ?_⟩
    · subst e
      exact hend z line [] tok rfl rfl
    · subst e
      have hx := hs x (.head _)
      have hs' : ∀ y ∈ xs', sgl y := fun y hy => hs y (.tail _ hy)
      have hh := sgl_hd hs'
      refine putq_there (putq_there (putq_there (putq_here ?_)))
      show WPs pr w Γ ⟨locG X I tok (.str x), [some (.ext (lexE C X (lineOf line x) push xs')), some (.ext (itE fr X.x I m true))]⟩ [_, _] _
      simp only [List.length_cons] at hn hz
      unfold lexQ at hret hend
      tm_at "x"
      refine ⟨fun hb => ?_, fun hb => ?_⟩
      · rw [if_pos (show (x == ("\"" : Str)) = true from hb)] at hret
        tm_at "x"
        exact hret _ _ _ _ rfl
      · rw [if_neg (show ¬ (x == ("\"" : Str)) = true from by rw [show (x == ("\"" : Str)) = false from hb]; simp)] at hret hend
        tm_at "x"
        refine ⟨fun hb => ?_, fun hb => ?_⟩
        · rw [if_pos (show (x == ("\\" : Str)) = true from hb)] at hret hend
          refine ws_cons (wx_readch T L hf hΓ (by omega) hs' ?_ (fun _ => rfl) (fun _ => rfl))
          tm_at "x"
          refine w2_icat (by show _ ≤ 16777216; omega) ?_
          tm_at "x"
          have hl : xs'.tail.length ≤ xs'.length := by rw [List.length_tail]; omega
          exact ih _ _ _ _ (by omega) (by rw [Str.length_append]; cases xs' with
            | nil => have : (hd1 []).length = 0 := rfl; simp; omega
            | cons y ys => simp at hh ⊢; simp at hz; omega) hh.2 hret hend
        · rw [if_neg (show ¬ (x == ("\\" : Str)) = true from by rw [show (x == ("\\" : Str)) = false from hb]; simp)] at hret hend
          tm_at "x"
          refine w2_icat (by show _ ≤ 16777216; rw [hx.2.2]; omega) ?_
          tm_at "x"
          exact ih _ _ _ _ (by omega) (by rw [Str.length_append, hx.2.2]; omega) hs' hret hend
theorem bar_loop {Γ : Cx} {push : List Str} {I m : Addr} {QF : MF → St → Prop} (T : TopF hB mg mb) (L : LexCls hB C N fi fr fg fq mN) (hf : IsFnC hB fr "_netrclex._read_char" bRead) (hΓ : Γof (fScope bGet) Γ hB 5 glG) : ∀ (n : Nat) (line : Int) (xs : List Str) (tok : Str) (z : MV), xs.length < n → tok.length + xs.length ≤ 100000 → (∀ x ∈ xs, sgl x) →
    (∀ z line' xs' tok', lexB n line xs tok = (true, line', xs', tok') → QF (.ret (.str tok')) ⟨locG X I tok' z, [some (.ext (lexE C X line' push xs')), some (.ext (itE fr X.x I m true))]⟩) →
    (∀ z line' xs' tok', lexB n line xs tok = (false, line', xs', tok') → xs' = [] → QF .next ⟨locG X I tok' z, [some (.ext (lexE C X line' push [])), some (.ext (itE fr X.x I m false))]⟩) →
    WPfC w Γ C X fr push I m 0 1 "ch" barB QF n ⟨locG X I tok z, [some (.ext (lexE C X line push xs)), some (.ext (itE fr X.x I m true))]⟩ := by
  intro n
  induction n with
  | zero => intro line xs tok z h; exact absurd h (Nat.not_lt_zero _)
  | succ n ih =>
    intro line xs tok z hn hz hs hret hend
    refine ⟨line, xs, true, rfl, rfl, by omega, fun x hx => ⟨(hs x hx).1, (hs x hx).2.1⟩, (fun e => by cases e), fun _ e => ?_, fun _ x xs' e => ?_⟩
    · subst e
      exact hend z line [] tok rfl rfl
    · subst e
      have hx := hs x (.head _)
      have hs' : ∀ y ∈ xs', sgl y := fun y hy => hs y (.tail _ hy)
      have hh := sgl_hd hs'
      refine putq_there (putq_there (putq_there (putq_here ?_)))
      show WPs pr w Γ ⟨locG X I tok (.str x), [some (.ext (lexE C X (lineOf line x) push xs')), some (.ext (itE fr X.x I m true))]⟩ [_, _] _
      simp only [List.length_cons] at hn hz
      unfold lexB at hret hend
      tm_at "x"
      refine wp_lexAttr L hΓ.2.1 (k := 0) (show ObjAt _ 0 _ from rfl) (by tm_at "lk") (mv := .str wsLex) (by tm_at "lk") (w2_inStr (wb_bool ?_))
      refine ⟨fun hb => ?_, fun hb => ?_⟩
      · rw [if_pos (show isWs x = true from hb)] at hret
        tm_at "x"
        exact hret _ _ _ _ rfl
      · rw [if_neg (show ¬ isWs x = true from by rw [show isWs x = false from hb]; simp)] at hret hend
        tm_at "x"
        refine ⟨fun hb => ?_, fun hb => ?_⟩
        · rw [if_pos (show (x == ("\\" : Str)) = true from hb)] at hret hend
          refine ws_cons (wx_readch T L hf hΓ (by omega) hs' ?_ (fun _ => rfl) (fun _ => rfl))
          tm_at "x"
          refine w2_icat (by show _ ≤ 16777216; omega) ?_
          tm_at "x"
          have hl : xs'.tail.length ≤ xs'.length := by rw [List.length_tail]; omega
          exact ih _ _ _ _ (by omega) (by rw [Str.length_append]; cases xs' with
            | nil => have : (hd1 []).length = 0 := rfl; simp; omega
            | cons y ys => simp at hh ⊢; simp at hz; omega) hh.2 hret hend
        · rw [if_neg (show ¬ (x == ("\\" : Str)) = true from by rw [show (x == ("\\" : Str)) = false from hb]; simp)] at hret hend
          tm_at "x"
          refine w2_icat (by show _ ≤ 16777216; rw [hx.2.2]; omega) ?_
          tm_at "x"
          exact ih _ _ _ _ (by omega) (by rw [Str.length_append, hx.2.2]; omega) hs' hret hend

theorem out_loop {Γ : Cx} {push : List Str} {I m : Addr} {QF : MF → St → Prop} (T : TopF hB mg mb) (L : LexCls hB C N fi fr fg fq mN) (hf : IsFnC hB fr "_netrclex._read_char" bRead) (hΓ : Γof (fScope bGet) Γ hB 5 glG) : ∀ (n : Nat) (line : Int) (xs : List Str) (z : MV), xs.length < n → xs.length ≤ 90000 → (∀ x ∈ xs, sgl x) →
    (∀ z line' xs' tok' live, lexO n line xs = (line', xs', tok') → QF (.ret (.str tok')) ⟨locG X I tok' z, [some (.ext (lexE C X line' push xs')), some (.ext (itE fr X.x I m live))]⟩) →
    (∀ z line' tok', lexO n line xs = (line', [], tok') → QF .next ⟨locG X I tok' z, [some (.ext (lexE C X line' push [])), some (.ext (itE fr X.x I m false))]⟩) →
    WPfC w Γ C X fr push I m 0 1 "ch" outB QF (n + 1) ⟨locG X I Str.empty z, [some (.ext (lexE C X line push xs)), some (.ext (itE fr X.x I m true))]⟩ := by
  intro n
  induction n with
  | zero => intro line xs z h; exact absurd h (Nat.not_lt_zero _)
  | succ n ih =>
    intro line xs z hn hz hs hret hend
    -- behind an inner loop that came to the end
    have fin : ∀ k z line' tok', lexO (n + 1) line xs = (line', [], tok') → WPfC w Γ C X fr push I m 0 1 "ch" outB QF (k + 1) ⟨locG X I tok' z, [some (.ext (lexE C X line' push [])), some (.ext (itE fr X.x I m false))]⟩ := fun k z line' tok' e =>
      ⟨line', [], false, rfl, rfl, Nat.zero_le _, (fun _ h => nomatch h), fun _ => hend z line' tok' e, (fun e => by cases e), fun e => by cases e⟩
    refine ⟨line, xs, true, rfl, rfl, by omega, fun x hx => ⟨(hs x hx).1, (hs x hx).2.1⟩, (fun e => by cases e), fun _ e => ?_, fun _ x xs' e => ?_⟩
    · subst e
      exact hend z line Str.empty rfl
    · subst e
      have hx := hs x (.head _)
      have hs' : ∀ y ∈ xs', sgl y := fun y hy => hs y (.tail _ hy)
      have hh := sgl_hd hs'
      refine putq_there (putq_there (putq_there (putq_here ?_)))
      show WPs pr w Γ ⟨locG X I Str.empty (.str x), [some (.ext (lexE C X (lineOf line x) push xs')), some (.ext (itE fr X.x I m true))]⟩ [_, _] _
      simp only [List.length_cons] at hn hz
      unfold lexO at hret hend fin
      refine ws_cons (wx_if (wt_compare (wp_name (by tm_at "lk") rfl (wp_lexAttr L hΓ.2.1 (k := 0) (show ObjAt _ 0 _ from rfl) (by tm_at "lk") (mv := .str wsLex) (by tm_at "lk") (w2_inStr (wb_bool ?_)))) rfl))
      refine ⟨fun hb => ?_, fun hb => ?_⟩
      · rw [if_pos (show isWs x = true from hb)] at hret hend
        tm_at "x"
        exact ih _ _ _ (by omega) (by omega) hs' hret hend
      · rw [if_neg (show ¬ isWs x = true from by rw [show isWs x = false from hb]; simp)] at hret hend fin
        refine ws_nil (then_next (ws_cons (wx_if ?_)))
        tm_at "x"
        refine ⟨fun hb => ?_, fun hb => ?_⟩
        · rw [if_pos (show (x == ("\"" : Str)) = true from hb)] at hret hend fin
          refine ws_cons (wx_forC T L hf hΓ (by decide) (k := 0) (kI := 1) (by decide) (by tm_at "lk") (.inl rfl) n (quo_loop T L hf hΓ n _ xs' Str.empty _ (by omega) (by show 0 + _ ≤ _; omega) hs' (fun z line' xs'' tok' e => ?_) fun z line' xs'' tok' e e2 => ?_))
          · exact hret _ _ _ _ _ (by rw [e])
          · refine then_next (ws_nil (then_next (ws_nil (turn_next (fin n _ _ _ (by rw [e, e2])))))) 
        · rw [if_neg (show ¬ (x == ("\"" : Str)) = true from by rw [show (x == ("\"" : Str)) = false from hb]; simp)] at hret hend fin
          tm_at "x"
          refine ⟨fun hb => ?_, fun hb => ?_⟩
          · rw [if_pos (show (x == ("\\" : Str)) = true from hb)] at hret hend fin
            refine ws_cons (wx_readch T L hf hΓ (by omega) hs' ?_ (fun _ => rfl) (fun _ => rfl))
            refine then_next (ws_nil (then_next (ws_cons ?_)))
            tm_at "x"
            refine w2_icat (by show 0 + _ ≤ 16777216; omega) ?_
            refine putq_there (putq_here (then_next ?_))
            have hl : xs'.tail.length ≤ xs'.length := by rw [List.length_tail]; omega
            refine ws_cons (wx_forC T L hf hΓ (by decide) (k := 0) (kI := 1) (by decide) (by tm_at "lk") (.inl rfl) n (bar_loop T L hf hΓ n _ _ _ _ (by omega) (by rw [Str.length_append]; show 0 + _ + _ ≤ _; omega) hh.2 (fun z line' xs'' tok' e => ?_) fun z line' xs'' tok' e e2 => ?_))
            · exact hret _ _ _ _ _ (by rw [e])
            · refine then_next (ws_nil (then_next (ws_nil (turn_next (fin n _ _ _ (by rw [e, e2]))))))
          · rw [if_neg (show ¬ (x == ("\\" : Str)) = true from by rw [show (x == ("\\" : Str)) = false from hb]; simp)] at hret hend fin
            refine ws_nil (then_next (ws_cons ?_))
            tm_at "x"
            refine w2_icat (by show 0 + _ ≤ 16777216; rw [hx.2.2]; omega) ?_
            refine putq_there (putq_here (then_next ?_))
            refine ws_cons (wx_forC T L hf hΓ (by decide) (k := 0) (kI := 1) (by decide) (by tm_at "lk") (.inl rfl) n (bar_loop T L hf hΓ n _ _ _ _ (by omega) (by rw [Str.length_append, hx.2.2]; show 0 + _ + _ ≤ _; omega) hs' (fun z line' xs'' tok' e => ?_) fun z line' xs'' tok' e e2 => ?_))
            · exact hret _ _ _ _ _ (by rw [e])
            · refine then_next (ws_nil (then_next (ws_nil (turn_next (fin n _ _ _ (by rw [e, e2]))))))
end



section
variable {w : World} {hB : Heap} {mg mb : Str → Option Value} {C N fi fr fg fq : Addr} {mN : Str → Option Value} {X : LX}
/-- one word -/
noncomputable def lexG (line : Int) (xs : List Str) : Int × List Str × Str := lexO (xs.length + 1) line xs
theorem xf_get {line : Int} {push xs : List Str} (T : TopF hB mg mb) (L : LexCls hB C N fi fr fg fq mN) (hf : IsFnC hB fr "_netrclex._read_char" bRead) (hg : IsFnC hB fg "_netrclex.get_token" bGet) (hgl : ∀ p ∈ glG, GlobAt w hB mg mb (fScope bGet) p) (hp : push.length ≤ 1000) (hz : xs.length ≤ 90000) (hs : ∀ x ∈ xs, sgl x) :
    ExtFn pr w 6 hB (.ref fg) [.obj (.ref X.x)] (lexE C X line push xs) (fun v e => match push with
      | p :: push' => v = .str p ∧ e = lexE C X line push' xs
      | [] => v = .str (lexG line xs).2.2 ∧ e = lexE C X (lexG line xs).1 [] (lexG line xs).2.1) := by
  refine ExtFn.of_stmt T hg.fn ["self"] ["token", "fiter", "ch"] glG bG rfl sG hgl rfl rfl ?_
  intro Γ hΓ
  have hgb := hΓ.2.1
  have hgg : Γ.glob = glG := hΓ.2.2.1
  show WPs pr w Γ ⟨[("self", .obj (.ref X.x)), ("token", .undef), ("fiter", .undef), ("ch", .undef)], [some (.ext (lexE C X line push xs))]⟩ _ _
  refine ws_cons (wx_if (wt_value (wp_lexAttr L hgb (k := 0) (show ObjAt _ 0 _ from rfl) (by tm_at "lk") (mv := .obj (.ref X.P)) (by tm_at "lk") (wb_push hp (k := 0) (show ObjAt _ 0 _ from rfl) ?_)) (fun _ _ => rfl)))
  cases push with
  | cons q push' =>
    refine ⟨fun _ => ?_, fun e => by cases e⟩
    refine ws_cons (wx_return ?_)
    refine' wp_method ?_ ?he ?hc
    case he => intro _ _; rfl
    case hc => intro _; rfl
    refine wp_lexAttr L hgb (k := 0) (show ObjAt _ 0 _ from rfl) (by tm_at "lk") (mv := .obj (.ref X.P)) (by tm_at "lk") ?_
    refine wm_list (k := 0) (show ObjAt _ 0 _ from rfl) PySem.F.slot_list_pop PySem.F.type_list_pop ?_
    tm_at "x"
    refine wc_pop0 hp rfl (k := 0) (show ObjAt _ 0 _ from rfl) ?_
    exact then_ret (then_ret ⟨_, _, rfl, .str, rfl, rfl⟩)
  | nil =>
    refine ⟨fun e => (by cases e), fun _ => ?_⟩
    refine ws_nil (then_next (ws_cons (wx_assign (wp_str (putq_there (putq_here (then_next (ws_cons ?_))))) (fun _ => rfl))))
    refine' wx_iter rfl L hf hgb (k := 0) (show ObjAt _ 0 _ from rfl) (by tm_at "lk") hgg (by tm_at "lk") (fun I m => ?_) ?hc ?hst ?hs
    case hc => intro _; rfl
    case hst => intro _; rfl
    case hs => intro _; rfl
    refine putq_there (putq_there (putq_here (then_next (ws_cons ?_))))
    refine wx_forC T L hf hΓ (by decide) (k := 0) (kI := 1) (by decide) (by tm_at "lk") (.inl rfl) (xs.length + 1 + 1) (out_loop T L hf hΓ (xs.length + 1) line xs _ (Nat.lt_succ_self _) hz hs (fun z line' xs' tok' live e => ?_) fun z line' tok' e => ?_)
    · refine then_ret ⟨_, _, rfl, .str, ?_, ?_⟩ <;> (unfold lexG; rw [e])
    · refine then_next ?_
      tm_at "x"
      refine ⟨_, _, rfl, .str, ?_, ?_⟩ <;> (unfold lexG; rw [e])
theorem sQ : ScopeOk (fScope bPush) ((["self", "token"] : List Str) ++ ([] : List Str)) := ⟨rfl, by decide +kernel, by decide +kernel, by decide +kernel⟩
theorem bQ : ∀ doc pm cdv ct vs, vs.length = (["self", "token"] : List Str).length → bindArgs (fnOf (fName bPush) "_netrclex.push_token" (fArgs bPush) (fBody bPush) (fScope bPush) .none .none doc pm none cdv ct) ⟨vs, []⟩ = pure ((["self", "token"] : List Str).zip vs) := by intro doc pm cdv ct vs h; match vs, h with | [v, u], _ => rfl
theorem xf_push {line : Int} {push xs : List Str} {x : Str} (T : TopF hB mg mb) (L : LexCls hB C N fi fr fg fq mN) (hq : IsFnC hB fq "_netrclex.push_token" bPush) (hp : push.length ≤ 1000) :
    ExtFn pr w 1 hB (.ref fq) [.obj (.ref X.x), .str x] (lexE C X line push xs) (fun v e => v = .none ∧ e = lexE C X line (push ++ [x]) xs) := by
  refine ExtFn.of_stmt T hq.fn ["self", "token"] [] [] bQ rfl sQ nofun rfl rfl ?_
  intro Γ hΓ
  have hgb := hΓ.2.1
  show WPs pr w Γ ⟨[("self", .obj (.ref X.x)), ("token", .str x)], [some (.ext (lexE C X line push xs))]⟩ [_] _
  refine ws_cons ?_
  refine' wx_expr ?_ ?hs
  case hs => intro _; rfl
  refine' wp_method ?_ ?he ?hc
  case he => intro _ _; rfl
  case hc => intro _; rfl
  refine wp_lexAttr L hgb (k := 0) (show ObjAt _ 0 _ from rfl) (by tm_at "lk") (mv := .obj (.ref X.P)) (by tm_at "lk") ?_
  refine wm_list (k := 0) (show ObjAt _ 0 _ from rfl) PySem.F.slot_list_append PySem.F.type_list_append ?_
  tm_at "x"
  refine wc_app hp (k := 0) (show ObjAt _ 0 _ from rfl) ?_
  tm_at "x"
  exact ⟨_, _, rfl, rfl, rfl⟩
end


noncomputable def strE (S : Addr) (xs : List Str) : Ext where
  rel := fun w _ _ fp h => fp = [S] ∧ ∃ vs n, h.get? S = some (listO vs n) ∧ VRs w (fun _ => none) noρ (xs.map .str) vs
  mono := fun _ _ _ _ _ _ _ _ _ r => r
  stab := fun _ _ _ _ _ _ hk r => by obtain ⟨rfl, vs, n, r1, r2⟩ := r; exact ⟨rfl, vs, n, (hk _ (.head _)).trans r1, r2⟩
  nor := fun _ _ _ _ _ r => r
noncomputable def insE (C x d : Addr) (m : Str → Option Value) : Ext where
  rel := fun _ _ _ fp h => fp = [x, d] ∧ InsAt C h x d m
  mono := fun _ _ _ _ _ _ _ _ _ r => r
  stab := fun _ _ _ _ _ _ hk r => by obtain ⟨rfl, r1⟩ := r; exact ⟨rfl, r1.at (fun o e => (hk _ (.head _)).trans e) (fun o e => (hk _ (.tail _ (.head _))).trans e)⟩
  nor := fun _ _ _ _ _ r => r
noncomputable def tabE (P : Addr) (ps : Array Value) : Ext where
  rel := fun _ _ _ fp h => fp = [P] ∧ h.get? P = some (tabObj ps)
  mono := fun _ _ _ _ _ _ _ _ _ r => r
  stab := fun _ _ _ _ _ _ hk r => by obtain ⟨rfl, r1⟩ := r; exact ⟨rfl, (hk _ (.head _)).trans r1⟩
  nor := fun _ _ _ _ _ r => r
noncomputable def lamX (lam cd cel : Addr) : Ext where
  rel := fun _ _ _ fp h => fp = [lam, cd] ∧ ∃ qual pm ctv, h.get? lam = some (kla_obj "<lambda>" qual lamArgs lamBody lamScope [("signs", cel)] pm cd ctv) ∧ h.CodeRec (.ref cd) qual
  mono := fun _ _ _ _ _ _ _ _ _ r => r
  stab := fun _ _ _ _ _ _ hk r => by
    obtain ⟨rfl, q, pm, ctv, r1, c, oc, fs, t, l2, l3, l4⟩ := r
    cases l2
    exact ⟨rfl, q, pm, ctv, (hk _ (.head _)).trans r1, _, oc, fs, t, rfl, (hk _ (.tail _ (.head _))).trans l3, l4⟩
  nor := fun _ _ _ _ _ r => r
section
variable {prog : Program} {w : World} {Γ : Cx} {K : Kp} {σ : St} {ps : List (MV × Value)} {s : Shared} {C x d : Addr} {m : Str → Option Value} {k : Nat} {hB : Heap} {N fi fr fg fq : Addr} {mN : Str → Option Value} {QF : MF → St → Prop}
/-- a value put into an instance -/
theorem set_core {name : Str} {mv : MV} {v : Value} {ns : List Str} {R : Unit → Shared → Prop} (X : ClsAt hB C N mN) (hns : mN "__setattr__" = none) (hna : mN name = none) (hob : typeLookup (.type "object") name = pure none) (hΓ : ∀ b o, hB.get? b = some o → Γ.hB b = some o)
    (hk : ObjAt σ k (.ext (insE C x d m))) (hw : PySem.Within m ns) (hsz : ns.length ≤ sizeLine) (r : Rel prog w Γ K σ ((mv, v) :: ps) s)
    (hR : ∀ s', Rel prog w Γ K { σ with objs := σ.objs.set k (some (.ext (insE C x d fun y => if y = name then some v else m y))) } ps s' → R () s') :
    wpAny (model prog w) Γ.A (setAttr (.ref x) name v) R (fun _ _ => False) s := by
  obtain ⟨F, m', cm, fps, Co⟩ := r.drop
  obtain ⟨fp, hfp, hor⟩ := Co.trk k _ hk
  have hrel : fp = [x, d] ∧ InsAt C s.heap x d m := by cases hor with | ext _ _ _ hh => exact hh
  obtain ⟨rfl, I⟩ := hrel
  have hF : ∀ b o, hB.get? b = some o → s.heap.get? b = some o := fun b o e => Co.frz b o (Co.base b o (hΓ b o e))
  have X' := X.keeps hF
  obtain ⟨nm, q, bs, sn, sub, col, dd, k0, k1, k2, k3, k5, hC⟩ := X'.obj
  have hxC : x ≠ C := by
    rintro rfl
    obtain ⟨nm, q, bs, sn, sub, col, dd, k0, k1, k2, k3, k5, hC₀⟩ := X.obj
    exact Co.frzH x _ (Co.base _ _ (hΓ _ _ hC₀)) (Co.mem_hot hk hfp (.head _))
  obtain ⟨hp, g, dr, t, os⟩ := s
  refine wpAny_with_toks (Nat.le_refl _) (store_attrFk PySem.F.store_object hC X'.ns hns hna hob hxC I.fk (fun h' tk' I' hk' hsame => ?_) hw hsz)
  intro ht
  obtain ⟨⟨o, i1, i2, i3, i4⟩, i5, i6, i7⟩ := I
  have hs : ∀ b o, b ∉ [x, d] → hp.get? b = some o → h'.get? b = some o := fun b o hb e => hk' b o (fun q => hb (by simp [q])) (fun o₀ d' e₀ ed => by
    obtain rfl := Option.some.inj (i1.symm.trans e₀); obtain rfl := Option.some.inj (i4.symm.trans ed); exact fun q => hb (by simp [q])) e
  obtain ⟨o₁, s1, s2, s3, s4, s5⟩ := hsame o i1
  have I₁ : InsAt C h' x d (fun y => if y = name then some v else m y) := by
    obtain ⟨o₂, j1, j2, j3, j4⟩ := I'
    obtain rfl := Option.some.inj (s1.symm.trans j1)
    rcases j4 with ⟨j4, _⟩ | ⟨d', j4, j5, j6, j7⟩
    · rw [s5 _ i4] at j4; cases j4
    · obtain rfl := Option.some.inj ((s5 _ i4).symm.trans j4)
      exact ⟨⟨o₁, s1, j2, j3, j4⟩, j5, j6, j7⟩
  refine hR _ ⟨F, m', cm, fps, Co.turnObj hk hfp hs (fun a ha => ?_) (Sub.refl F) (fun b x e => hs b x (fun q => Co.frzH b x e (Co.mem_hot hk hfp q)) (Co.frz b x e)) (fun _ _ e => .inl e) (.ext (insE C x d _) [x, d] h' (show _ ∧ _ from ⟨rfl, I₁⟩)) (fun _ e => by cases e) tk' ht⟩
  simp only [List.mem_cons, List.not_mem_nil, or_false] at ha
  rcases ha with rfl | rfl
  · exact ⟨_, s1⟩
  · obtain ⟨_, _, ⟨od, _, _, e, _⟩, _⟩ := I₁; exact ⟨_, e⟩
theorem wx_setattr {n name : Str} {np ta p : Pos} {e : Expr} {ns : List Str} (X : ClsAt hB C N mN) (hns : mN "__setattr__" = none) (hna : mN name = none) (hob : typeLookup (.type "object") name = pure none) (hΓ : ∀ b o, hB.get? b = some o → Γ.hB b = some o)
    (hk : ObjAt σ k (.ext (insE C x d m))) (hw : PySem.Within m ns) (hsz : ns.length ≤ sizeLine) (hn : Lk n (.obj (.ref x)) σ.loc)
    (h : WPe prog w Γ σ e fun mv σ₁ => σ₁ = σ ∧ ∀ v, (∃ F ρ, VR w F ρ mv v) → QF .next { σ with objs := σ.objs.set k (some (.ext (insE C x d fun y => if y = name then some v else m y))) })
    (hs : ∀ env, swapsWith e (some (.Attribute (.Name n np) name ta)) p.line env = pure false) : WPx prog w Γ σ (.Assign [.Attribute (.Name n np) name ta] e p) QF := by
  intro K ps s R r hR
  refine plainObj_wpAny_Assign_Attribute (h K ps s _ r fun mv v σ₁ s₁ hq r₁ => ?_) (hs _)
  obtain ⟨rfl, hq⟩ := hq
  refine (wp_name (Q := fun mv σ' => mv = .obj (.ref x) ∧ σ' = σ₁) hn rfl ⟨rfl, rfl⟩) K _ s₁ _ r₁ fun mv' u σ₂ s₂ hq₂ r₂ => ?_
  obtain ⟨rfl, rfl⟩ := hq₂
  obtain rfl := r₂.obj
  have hv : ∃ F ρ, VR w F ρ mv v := let ⟨F, _, _, fps, Co⟩ := r₂; ⟨F, _, Co.ps (mv, v) (.tail _ (.head _))⟩
  exact set_core X hns hna hob hΓ hk hw hsz r₂.drop fun s' r' => hR .next .next _ s' (hq v hv) ⟨rfl, r'⟩
/-- the same with a new list -/
theorem wx_setnew {n name : Str} {np ta p pl : Pos} {ns : List Str} (X : ClsAt hB C N mN) (hns : mN "__setattr__" = none) (hna : mN name = none) (hob : typeLookup (.type "object") name = pure none) (hΓ : ∀ b o, hB.get? b = some o → Γ.hB b = some o)
    (hk : ObjAt σ k (.ext (insE C x d m))) (hw : PySem.Within m ns) (hsz : ns.length ≤ sizeLine) (hn : Lk n (.obj (.ref x)) σ.loc)
    (h : ∀ P, Γ.sh.heap.get? P = none → QF .next { σ with objs := (σ.objs ++ [some (MO.ext (strE P []))]).set k (some (MO.ext (insE C x d fun y => if y = name then some (.ref P) else m y))) }) : WPx prog w Γ σ (.Assign [.Attribute (.Name n np) name ta] (.List [] pl) p) QF := by
  intro K ps s R r hR
  refine plainObj_wpAny_Assign_Attribute (wpAny_List (wpAny_items_nil ⟨Nat.zero_le _, ?_⟩)) rfl
  obtain ⟨F, m', cm, fps, Co⟩ := r
  have C' := Co.addObj (o := .ext (strE s.heap.objs.size [])) (fp := [s.heap.objs.size]) (h' := s.heap.push (listO [] 0)) (fun b x e => Heap.get?_push_of_some _ e) (by simp) (fun a ha => by simp at ha; subst ha; exact get?_size _)
    (fun a ha => by simp at ha; subst ha; exact ⟨_, Heap.get?_push_size _ rfl⟩) (.ext _ _ _ (show _ ∧ _ from ⟨rfl, [], 0, Heap.get?_push_size _ rfl, VRs.nil⟩)) s.toks
  have hf : Γ.sh.heap.get? s.heap.objs.size = none := by
    cases q : Γ.sh.heap.get? s.heap.objs.size with
    | none => rfl
    | some o => obtain ⟨o', e⟩ := Co.ext _ o q; rw [get?_size] at e; cases e
  have hkl : k < σ.objs.length := (List.getElem?_eq_some_iff.mp hk).1
  have r₁ : Rel prog w Γ K { σ with objs := σ.objs ++ [some (MO.ext (strE s.heap.objs.size []))] } ((.obj (.ref s.heap.objs.size), .ref s.heap.objs.size) :: ps) { s with heap := s.heap.push (listO [] 0) } := ⟨F, m', cm, _, C'.cons (.obj _)⟩
  refine (wp_name (σ := { σ with objs := σ.objs ++ [some (MO.ext (strE s.heap.objs.size []))] }) (Q := fun mv σ' => mv = .obj (.ref x) ∧ σ' = { σ with objs := σ.objs ++ [some (MO.ext (strE s.heap.objs.size []))] }) hn rfl ⟨rfl, rfl⟩) K _ _ _ r₁ fun mv' u σ₂ s₂ hq₂ r₂ => ?_
  obtain ⟨rfl, rfl⟩ := hq₂
  obtain rfl := r₂.obj
  have hk2 : ObjAt { σ with objs := σ.objs ++ [some (MO.ext (strE s.heap.objs.size []))] } k (.ext (insE C x d m)) := by
    show (σ.objs ++ [some (MO.ext (strE s.heap.objs.size []))])[k]? = some (some (.ext (insE C x d m)))
    rw [List.getElem?_append_left hkl]; exact hk
  exact set_core X hns hna hob hΓ hk2 hw hsz r₂.drop fun s' r' => hR .next .next _ s' (h _ hf) ⟨rfl, r'⟩
end


structure InitMap (v : Value) (P : Addr) (m : Str → Option Value) : Prop where
  line : ∃ t, m "lineno" = some (.int 1 t)
  ins : m "instream" = some v
  ws : ∃ t, m "whitespace" = some (.str wsLex t)
  push : m "pushback" = some (.ref P)
  none : ∀ n, n ∉ lexNames → m n = none
theorem sI : ScopeOk (fScope bInit) ((["self", "fp"] : List Str) ++ ([] : List Str)) := ⟨rfl, by decide +kernel, by decide +kernel, by decide +kernel⟩
theorem bI : ∀ doc pm cdv ct vs, vs.length = (["self", "fp"] : List Str).length → bindArgs (fnOf (fName bInit) "_netrclex.__init__" (fArgs bInit) (fBody bInit) (fScope bInit) .none .none doc pm none cdv ct) ⟨vs, []⟩ = pure ((["self", "fp"] : List Str).zip vs) := by intro doc pm cdv ct vs h; match vs, h with | [v, u], _ => rfl
section
variable {w : World} {hB : Heap} {mg mb : Str → Option Value} {C N fi fr fg fq : Addr} {mN : Str → Option Value}
theorem init_call {A : Around} {F : Frz} {s : Shared} {x d : Addr} {v : Value} {R : Result → Shared → Prop} (T : TopF hB mg mb) (L : LexCls hB C N fi fr fg fq mN) (hi : IsFnC hB fi "_netrclex.__init__" bInit)
    (hd : A.depth + 1 < recursionLimit) (hu : A.units + 20 < cLine) (hh : A.handled = none) (htk : 1 ≤ s.toks) (hB1 : ∀ b o, hB.get? b = some o → F b = some o) (hF : ∀ b o, F b = some o → s.heap.get? b = some o)
    (I : InsAt C s.heap x d fun _ => none) (hFx : F x = none) (hFd : F d = none)
    (hR : ∀ P m n h' tk, s.toks ≤ tk → (∀ b o, b ≠ x → b ≠ d → s.heap.get? b = some o → h'.get? b = some o) → s.heap.get? P = none → InsAt C h' x d m → InitMap v P m → h'.get? P = some (listO [] n) → R (.ok (.ret .none)) { s with heap := h', toks := tk }) :
    codeAny (model pr w) A (.call (.ref fi) ⟨[.ref x, v], []⟩) R s := by
  obtain ⟨od, osl, pm, cdv, ct, doc, h1, h2⟩ := hi
  have hxd : d ≠ x := I.2.1
  refine call_core (ℓ := 0) (fp := [x, d]) (e := insE C x d fun _ => none) (params := ["self", "fp"]) (rest := []) (args := [.obj (.ref x), .obj v]) (glob := []) (QF := fun Γ mf σ => mf = .next ∧ ∃ m P, σ.objs = [some (.ext (insE C x d m)), some (.ext (strE P []))] ∧ InitMap v P m ∧ Γ.sh.heap.get? P = none)
    h1 h2 T.nolimit rfl rfl rfl rfl (bI doc pm cdv ct) rfl sI (fun _ _ h => nomatch h) rfl rfl hd hu hh htk hB1 hF (VRs.cons (.obj _) (VRs.cons (.obj _) VRs.nil)) (show _ ∧ _ from ⟨rfl, I⟩) (by simp [hxd.symm]) (fun a ha => by simp at ha; rcases ha with rfl | rfl <;> assumption) (fun a ha => ?_) (fun Γ hΓ fr _ => ?_) (fun Γ mf fl σ' s' fr hq hr => ?_)
  · simp only [List.mem_cons, List.not_mem_nil, or_false] at ha
    obtain ⟨⟨o, i1, _⟩, _, ⟨od, _, _, i2, _⟩, _⟩ := I
    rcases ha with rfl | rfl
    · exact ⟨_, i1⟩
    · exact ⟨_, i2⟩
  · have hg := hΓ.2.1
    show WPs pr w Γ ⟨[("self", .obj (.ref x)), ("fp", .obj v)], [some (.ext (insE C x d fun _ => none))]⟩ [_, _, _, _] _
    refine ws_cons (wx_setattr L.cls (L.quiet _ (by decide)) (L.quiet _ (by decide)) (obj_lookup _ (by decide)) hg (k := 0) (show ObjAt _ 0 _ from rfl) (ns := []) (fun y hy => absurd rfl hy) (by decide) (by tm_at "lk") (wp_int ⟨rfl, fun v1 hv1 => then_next (ws_cons ?_)⟩) (fun _ => rfl))
    refine wx_setattr L.cls (L.quiet _ (by decide)) (L.quiet _ (by decide)) (obj_lookup _ (by decide)) hg (k := 0) (show ObjAt _ 0 _ from rfl) (PySem.Within.cons _ _ (fun y hy => absurd rfl hy : PySem.Within (fun _ => none) [])) (by decide) (by tm_at "lk") (wp_name (by tm_at "lk") rfl ⟨rfl, fun v2 hv2 => then_next (ws_cons ?_)⟩) (fun _ => rfl)
    refine wx_setattr L.cls (L.quiet _ (by decide)) (L.quiet _ (by decide)) (obj_lookup _ (by decide)) hg (k := 0) (show ObjAt _ 0 _ from rfl) (PySem.Within.cons _ _ (PySem.Within.cons _ _ (fun y hy => absurd rfl hy : PySem.Within (fun _ => none) []))) (by decide) (by tm_at "lk") (wp_str ⟨rfl, fun v3 hv3 => then_next (ws_cons ?_)⟩) (fun _ => rfl)
    refine wx_setnew L.cls (L.quiet _ (by decide)) (L.quiet _ (by decide)) (obj_lookup _ (by decide)) hg (k := 0) (show ObjAt _ 0 _ from rfl) (PySem.Within.cons _ _ (PySem.Within.cons _ _ (PySem.Within.cons _ _ (fun y hy => absurd rfl hy : PySem.Within (fun _ => none) [])))) (by decide) (by tm_at "lk") (fun P hP => then_next (ws_nil ?_))
    obtain ⟨_, _, hv1⟩ := hv1
    obtain ⟨_, _, hv2⟩ := hv2
    obtain ⟨_, _, hv3⟩ := hv3
    cases hv1 with | int _ t1 =>
    cases hv2
    cases hv3 with | str _ t3 =>
    refine ⟨rfl, _, P, rfl, ⟨⟨t1, ?_⟩, ?_, ⟨t3, ?_⟩, ?_, fun n hn => ?_⟩, hP⟩
    · rw [if_neg (by decide), if_neg (by decide), if_neg (by decide), if_pos rfl]
    · rw [if_neg (by decide), if_neg (by decide), if_pos rfl]
    · rw [if_neg (by decide), if_pos rfl]; rfl
    · rw [if_pos rfl]
    · simp only [lexNames, List.mem_cons, List.not_mem_nil, or_false, not_or] at hn
      rw [if_neg hn.2.2.2, if_neg hn.2.2.1, if_neg hn.2.1, if_neg hn.1]
  · obtain ⟨rfl, m, P, ho, hm, hP⟩ := hq
    obtain ⟨rfl, F', m', cm, fps, Co⟩ := hr
    obtain ⟨h', tk', es⟩ := Co.same
    obtain ⟨lf, elf⟩ := Co.pre
    have hlen := Co.len
    rw [ho, elf, fr.fps0] at hlen
    obtain ⟨fpP, rfl⟩ : ∃ fpP, lf = [fpP] := by
      match lf, hlen with
      | [q], _ => exact ⟨q, rfl⟩
    obtain ⟨fp1, e1, or1⟩ := Co.trk 0 _ (by rw [ho]; rfl)
    obtain ⟨fp2, e2, or2⟩ := Co.trk 1 _ (by rw [ho]; rfl)
    have r1 : fp1 = [x, d] ∧ InsAt C s'.heap x d m := by cases or1 with | ext _ _ _ hh => exact hh
    have r2 : fp2 = [P] ∧ ∃ vs n, s'.heap.get? P = some (listO vs n) ∧ VRs w (fun _ => none) noρ (([] : List Str).map MV.str) vs := by cases or2 with | ext _ _ _ hh => exact hh
    obtain ⟨_, vs, n, p1, p2⟩ := r2
    have : vs = [] := List.length_eq_zero_iff.mp p2.1
    subst this
    have htk' := Co.tok
    have hkept := Co.kept
    rw [fr.sh] at es hP
    rw [fr.lo] at htk'
    rw [es] at r1 p1 htk' hkept ⊢
    exact hR P m n h' tk' htk' (fun b o hx hd e => hkept b o ((if_neg (by simp [hx, hd])).trans e)) hP r1.2 hm p1
end



section
variable {prog : Program} {w : World} {Γ : Cx} {K : Kp} {σ : St} {ps : List (MV × Value)} {s : Shared} {F : Frz} {m cm : Str → Option Value} {fps : List (List Addr)}
theorem kept_cls {h : Heap} {C N : Addr} {mN : Str → Option Value} (X : ClsAt h C N mN) : Kept (.ref C) h := fun M => ⟨.machine, .inr (.inl rfl), by
  intro A Q E s k q
  obtain ⟨nm, qq, bs, sn, sub, col, dd, k0, k1, k2, k3, k5, hC⟩ := X.obj
  obtain ⟨hp, g, d, t, os⟩ := s
  exact wpAny_keeperOf_exc (k _ _ hC) q⟩
end
section
variable {w : World} {Γ : Cx} {σ : St} {hB : Heap} {mg mb : Str → Option Value} {C N fi fr fg fq : Addr} {mN : Str → Option Value} {Q : MV → St → Prop}
/-- an instance is made -/
theorem wp_mkins {sc : Scope} {ℓ : Nat} {gl gl' : List (Str × MV)} {e : Expr} {pi p : Pos} {mv₀ : MV} {v₀ : Value} (T : TopF hB mg mb) (L : LexCls hB C N fi fr fg fq mN) (hi : IsFnC hB fi "_netrclex.__init__" bInit) (hΓ : Γof sc Γ hB ℓ gl') (hℓ : 3 ≤ ℓ) (hgl : Γ.glob = gl) (hn : Lk "_netrclex" (.obj (.ref C)) gl)
    (harg : WPe pr w Γ σ e fun mv σ₁ => mv = mv₀ ∧ σ₁ = σ) (hv : ∀ F ρ u, VR w F ρ mv₀ u → u = v₀)
    (h : ∀ x d P m, InitMap v₀ P m → Γ.sh.heap.get? x = none → Γ.sh.heap.get? d = none → Γ.sh.heap.get? P = none → Q (.obj (.ref x)) ⟨σ.loc, σ.objs ++ [some (.ext (insE C x d m))] ++ [some (.ext (strE P []))]⟩)
    (hc : ∀ env, eval (.Call (.Name "_netrclex" pi) [e] [] p) env = (do callWith p (← eval (.Name "_netrclex" pi) env) [] (backTo p (starEach [e] env)) (backToKw p (keywordEach [] env))))
    (hst : ∀ env, starEach [e] env = (false, eval e env) :: starEach [] env) : WPe pr w Γ σ (.Call (.Name "_netrclex" pi) [e] [] p) Q := by
  intro K ps s R r hR
  rw [hc]
  refine wpAny_bind (wp_globE (Q := fun mv σ' => mv = .obj (.ref C) ∧ σ' = σ) hgl hn ⟨rfl, rfl⟩ K ps s _ r fun fv v σ₁ s₁ h₁ r₁ => ?_)
  obtain ⟨rfl, rfl⟩ := h₁
  obtain rfl := r₁.obj
  have r₁ := r₁.drop
  refine callWith_of (P := Kept (.ref C)) (by rw [hst]; rfl) (fun h k => k _) (evalArgs_list (by rw [hst]; rfl) ?_)
  refine wpAny_items_cons (harg K ps s₁ _ r₁ fun mv u σ₂ s₂ hq r₂ => wpAny_items_nil ?_) (hst _)
  obtain ⟨rfl, rfl⟩ := hq
  obtain ⟨g1, g2, g3, g4, g5, g6, g7⟩ := hΓ
  obtain ⟨F, m', cm, fps, Co⟩ := r₂
  obtain rfl : u = v₀ := hv _ _ _ (Co.ps _ (.head _))
  have Co := Co.drop
  have hF : ∀ b o, hB.get? b = some o → s₂.heap.get? b = some o := fun b o e => Co.frz b o (Co.base b o (g2 b o e))
  have X' := L.cls.keeps hF
  obtain ⟨nm, q, bs, sn, sub, col, dd, k0, k1, k2, k3, k5, hC⟩ := X'.obj
  refine ⟨kept_cls X', ?_⟩
  obtain ⟨od, osl, pm, cdv, ct, doc, f1, f2⟩ := id hi
  have hh := Co.ok.handled
  have hlo : 1 ≤ s₂.toks := Nat.le_trans Co.ok.lo1 Co.tok
  obtain ⟨hp, g, dr, t, os⟩ := s₂
  refine wpAny_call_obj_initFk PySem.F.objNew hC X'.ns L.mi (hF _ _ f1) rfl fun h' x d Mk => ?_
  have I : InsAt C h' x d fun _ => none := by
    obtain ⟨o, i1, i2, i3, i4⟩ := Mk.inst
    have hd := Mk.dict o i1
    rcases i4 with ⟨i4, _⟩ | ⟨d', i4, i5, i6, i7⟩
    · rw [hd] at i4; cases i4
    · obtain rfl := Option.some.inj (hd.symm.trans i4)
      exact ⟨⟨o, i1, i2, i3, hd⟩, i5, i6, i7⟩
  have nx := Co.newF (a := x) Mk.newX
  have nd := Co.newF (a := d) Mk.newD
  refine wpAny_call (init_call (F := F) T L hi (by show Γ.A.depth + 1 + 1 < _; omega) (by show Γ.A.units + 1 + 20 < _; omega) hh hlo (fun b o e => Co.base b o (g2 b o e)) (fun b o e => Mk.keeps _ _ (Co.frz b o e)) I nx.1 nd.1 fun P m n h'' tk ht hk hP I' hm hPo => ?_)
  refine ⟨rfl, ?_⟩
  have hk2 : ∀ b o, hp.get? b = some o → h''.get? b = some o := fun b o e => hk b o (fun q => by rw [q, Mk.newX] at e; cases e) (fun q => by rw [q, Mk.newD] at e; cases e) (Mk.keeps _ _ e)
  have hPs : hp.get? P = none := by
    cases q : hp.get? P with
    | none => rfl
    | some o => have hP : h'.get? P = none := hP
                rw [Mk.keeps _ _ q] at hP; cases hP
  have nP := Co.newF (a := P) hPs
  have C₁ := Co.grow (h' := h'') hk2 (Sub.refl F) (fun b o e => hk2 b o (Co.frz b o e)) (fun _ _ e => .inl e) tk ht
  have hxd : d ≠ x := I.2.1
  have hxo : ∃ o, h'.get? x = some o := let ⟨⟨o, i1, _⟩, _⟩ := I; ⟨o, i1⟩
  have hdo : ∃ o, h'.get? d = some o := let ⟨_, _, ⟨o, _, _, i1, _⟩, _⟩ := I; ⟨o, i1⟩
  have hPx : P ≠ x := fun q => by obtain ⟨o, e⟩ := hxo; rw [← q] at e; rw [show h'.get? P = none from hP] at e; cases e
  have hPd : P ≠ d := fun q => by obtain ⟨o, e⟩ := hdo; rw [← q] at e; rw [show h'.get? P = none from hP] at e; cases e
  have C₂ := C₁.addExt (e := insE C x d m) (fp := [x, d]) (by simp [hxd.symm]) (fun a ha => by simp at ha; rcases ha with rfl | rfl; exact nx.1; exact nd.1) (fun a ha => by simp at ha; rcases ha with rfl | rfl; exact nx.2.1; exact nd.2.1)
    (fun a ha => by simp at ha; rcases ha with rfl | rfl; exact nx.2.2.1; exact nd.2.2.1) (fun a ha => by
      simp only [List.mem_cons, List.not_mem_nil, or_false] at ha
      obtain ⟨⟨o, i1, _⟩, _, ⟨od, _, _, i2, _⟩, _⟩ := I'
      rcases ha with rfl | rfl
      · exact ⟨_, i1⟩
      · exact ⟨_, i2⟩) (show _ ∧ _ from ⟨rfl, I'⟩)
  have C₃ := C₂.addExt (e := strE P []) (fp := [P]) (by simp) (fun a ha => by simp at ha; subst ha; exact nP.1) (fun a ha => by simp at ha; subst ha; exact nP.2.1) (fun a ha hh => by
      simp only [List.mem_cons, List.not_mem_nil, or_false] at ha
      subst ha
      have : Γ.hot (σ₂.objs ++ [some (.ext (insE C x d m))]) (fps ++ [[x, d]]) = Γ.hot σ₂.objs fps ++ [x, d] := by unfold Cx.hot; rw [alive_snoc C₁.len]; simp
      rw [show ({ σ₂ with objs := σ₂.objs ++ [some (MO.ext (insE C x d m))] } : St).objs = σ₂.objs ++ [some (.ext (insE C x d m))] from rfl, this] at hh
      rcases List.mem_append.mp hh with q | q
      · exact nP.2.2.1 q
      · simp at q; exact q.elim hPx hPd) (fun a ha => by simp at ha; subst ha; exact ⟨_, hPo⟩) (show _ ∧ _ from ⟨rfl, [], n, hPo, VRs.nil⟩)
  exact hR (.obj (.ref x)) (.ref x) _ _ (h x d P m hm nx.2.2.2 nd.2.2.2 nP.2.2.2) ⟨F, m', cm, _, C₃.cons (.obj _)⟩
end



section
variable {w : World} {Γ : Cx} {σ : St} {hB : Heap} {mg mb : Str → Option Value} {C N fi fr fg fq : Addr} {mN : Str → Option Value} {QF : MF → St → Prop}
theorem strs1_vr {x : Str} {acc : Array Value} (h : ItemsOf (SignAt x) acc x.cps.size) : VRs w (fun _ => none) noρ ((strs1 x).map .str) acc.toList := by
  refine ⟨by simp [strs1, h.1], fun i y v hy hv => ?_⟩
  obtain ⟨c, u, hc, rfl⟩ := h.2 i v (by simpa using hv)
  unfold strs1 at hy
  rw [List.getElem?_map, List.getElem?_map, Array.getElem?_toList, hc] at hy
  cases hy
  exact .str _ _
theorem wx_listof {y : Str} {gl : List (Str × MV)} {e : Expr} {x : Str} {py pi p pst : Pos} (hgl : Γ.glob = gl) (hn : Lk "list" (.obj (.type "list")) gl) (hx : x.length ≤ 1000000) (he : WPe pr w Γ σ e fun mv σ₁ => mv = .str x ∧ σ₁ = σ)
    (h : ∀ S, Γ.sh.heap.get? S = none → PutQ y (.obj (.ref S)) σ.loc fun l' => QF .next ⟨l', σ.objs ++ [some (.ext (strE S (strs1 x)))]⟩)
    (hc : ∀ env, eval (.Call (.Name "list" pi) [e] [] p) env = (do callWith p (← eval (.Name "list" pi) env) [] (backTo p (starEach [e] env)) (backToKw p (keywordEach [] env))))
    (hst : ∀ env, starEach [e] env = (false, eval e env) :: starEach [] env)
    (hs : ∀ env, swapsWith (.Call (.Name "list" pi) [e] [] p) (some (.Name y py)) pst.line env = pure false) : WPx pr w Γ σ (.Assign [.Name y py] (.Call (.Name "list" pi) [e] [] p) pst) QF := by
  intro K ps s R r hR
  refine wpAny_Assign_Name ?_ (hs _)
  rw [hc]
  refine wpAny_bind (wp_globE (Q := fun mv σ' => mv = .obj (.type "list") ∧ σ' = σ) hgl hn ⟨rfl, rfl⟩ K ps s _ r fun fv v σ₁ s₁ h₁ r₁ => ?_)
  obtain ⟨rfl, rfl⟩ := h₁
  obtain rfl := r₁.obj
  refine callWith_of (P := Kept (.type "list")) (by rw [hst]; rfl) (fun h k => k _) (evalArgs_list (by rw [hst]; rfl) ?_)
  refine wpAny_items_cons (he K ps s₁ _ r₁.drop fun mv u σ₂ s₂ hq r₂ => wpAny_items_nil ?_) (hst _)
  obtain ⟨rfl, rfl⟩ := hq
  obtain ⟨t, rfl⟩ := r₂.str
  have hh := r₂.handled
  refine ⟨kept_type, wpAny_with_toks (Nat.le_refl _) (call_list_str hh x t (fun h' tk acc c' hk hg hi => ?_) (Nat.le_trans hx (by decide)))⟩
  intro ht
  obtain ⟨F, m, cm, fps, Co⟩ := r₂.drop
  have nS := Co.newF (a := s₂.heap.objs.size) (get?_size _)
  have C₁ := Co.grow (h' := h') hk (Sub.refl F) (fun b o e => hk _ _ (Co.frz b o e)) (fun _ _ e => .inl e) tk ht
  have C₂ := C₁.addExt (e := strE s₂.heap.objs.size (strs1 x)) (fp := [s₂.heap.objs.size]) (by simp) (fun a ha => by simp at ha; subst ha; exact nS.1) (fun a ha => by simp at ha; subst ha; exact nS.2.1) (fun a ha => by simp at ha; subst ha; exact nS.2.2.1) (fun a ha => by simp at ha; subst ha; exact ⟨_, hg⟩) (show _ ∧ _ from ⟨rfl, acc.toList, c', by rw [hg], strs1_vr hi⟩)
  obtain ⟨l', hput, hq⟩ := h _ nS.2.2.2
  exact WP1.to_store (σ := { σ₂ with objs := σ₂.objs ++ [some (.ext (strE s₂.heap.objs.size (strs1 x)))] }) (mv := .obj _) (QU := fun σ => QF .next σ) hput hq K ps _ _ _ ⟨F, m, cm, _, C₂.cons (.obj _)⟩ fun σ₃ s₃ h₃ r₃ => hR .next .next σ₃ s₃ h₃ ⟨rfl, r₃⟩
theorem lam_clos {env : Env} {cel : Addr} (h : env.cells.lookup ("signs" : Str) = some cel) : closureFor lamScope env = pure [(("signs" : Str), cel)] := by
  unfold closureFor
  rw [show lamScope.names = [(("count" : Str), NameKind.local), (("signs" : Str), NameKind.free)] from by decide +kernel]
  simp only [List.forIn_cons, List.forIn_nil]
  unfold cellOf
  rw [h]; rfl
/-- the lambda, made and kept in the stream -/
theorem wx_setlam {n : Str} {np ta p : Pos} {x d P0 cd0 cel : Addr} {m : Str → Option Value} {k : Nat} {e : Expr} (T : TopF hB mg mb) (L : LexCls hB C N fi fr fg fq mN) {sc : Scope} {ℓ : Nat} {gl : List (Str × MV)} (hΓ : Γof sc Γ hB ℓ gl) (he : e = .Lambda lamArgs lamBody lamScope lamPos)
    (hcode : Γ.env.code = .ref cd0) (hhd : CodeHd hB cd0 P0) (hbt : hB.BuiltinsAt mg P0) (hcel : Γ.oc.lookup ("signs" : Str) = some cel) (hk0 : ObjAt σ 0 (.ext (tabE P0 #[]))) (hk : ObjAt σ (k + 1) (.ext (insE C x d m))) (hw : PySem.Within m lexNames) (hn : Lk n (.obj (.ref x)) σ.loc)
    (h : ∀ lam cd ps', Γ.sh.heap.get? lam = none → Γ.sh.heap.get? cd = none → QF .next ⟨σ.loc, ((σ.objs.set 0 (some (MO.ext (tabE P0 ps')))) ++ [some (MO.ext (lamX lam cd cel))]).set (k + 1) (some (MO.ext (insE C x d fun y => if y = "read" then some (.ref lam) else m y)))⟩)
    (hs : ∀ env, swapsWith e (some (.Attribute (.Name n np) "read" ta)) p.line env = pure false) : WPx pr w Γ σ (.Assign [.Attribute (.Name n np) "read" ta] e p) QF := by
  subst he
  intro K ps s R r hR
  refine plainObj_wpAny_Assign_Attribute ?_ (hs _)
  obtain ⟨F, m', cm, fps, Co⟩ := r
  obtain ⟨g1, g2, g3, g4, g5, g6, g7⟩ := hΓ
  obtain ⟨fp, hfp, hor⟩ := Co.trk 0 _ hk0
  have hrel : fp = [P0] ∧ s.heap.get? P0 = some (tabObj #[]) := by cases hor with | ext _ _ _ hh => exact hh
  obtain ⟨rfl, hP0⟩ := hrel
  have hF : ∀ b o, hB.get? b = some o → s.heap.get? b = some o := fun b o e => Co.frz b o (Co.base b o (g2 b o e))
  have hnot : ∀ b o, hB.get? b = some o → b ≠ P0 := fun b o e q => Co.frzH b o (Co.base b o (g2 b o e)) (Co.mem_hot hk0 hfp (by simp [q]))
  have hgP : mainGlobals ≠ P0 := by obtain ⟨o, _, _, e, _⟩ := T.g; exact hnot _ _ e
  obtain ⟨bm, ob, b1, b2, b3, b4, b5, b6⟩ := hbt
  refine kla_eval rfl (wpAny_with_toks (Nat.le_refl _) (kla_makeFunction (mg := mg) (lam_clos (Co.ok.ocs _ _ hcel)) g6 (T.g.keeps hF) hcode (hhd.keeps hF) hP0 (show TriplesOk [] from trivial) rfl hgP ⟨bm, ob, b1, b2, b3, hnot _ _ b5, hF _ _ b5, b6⟩ fun c' ctv h' tk hx hge hlt hrec htb => ?_))
  intro ht
  have hnone : ∀ b, s.heap.objs.size ≤ b → s.heap.get? b = none := fun b hb => by
    cases q : s.heap.get? b with
    | none => rfl
    | some o => exact absurd (Heap.lt_size q) (Nat.not_lt.mpr hb)
  have hlam0 : s.heap.objs.size ≤ h'.objs.size := Nat.le_of_lt (Nat.lt_of_le_of_lt hge hlt)
  have nl := Co.newF (hnone _ hlam0)
  have nc := Co.newF (hnone _ hge)
  have hsx : ∀ b x, b ∉ [P0] → s.heap.get? b = some x → (h'.push (kla_obj "<lambda>" (Γ.env.qual ++ "<lambda>") lamArgs lamBody lamScope [("signs", cel)] ((mg "__name__").getD .none) c' ctv)).get? b = some x := fun b x hb e => Heap.get?_push_of_some _ (hx b x (fun q => hb (by simp [q])) e)
  have C₁ := Co.turnObj (F' := F) hk0 hfp hsx (fun a ha => by simp at ha; subst ha; exact ⟨_, Heap.get?_push_of_some _ htb⟩) (Sub.refl F) (fun b x e => hsx b x (fun q => Co.frzH b x e (Co.mem_hot hk0 hfp q)) (Co.frz b x e)) (fun _ _ e => .inl e) (.ext (tabE P0 _) [P0] _ (show _ ∧ _ from ⟨rfl, Heap.get?_push_of_some _ htb⟩)) (fun _ e => by cases e) tk ht
  have hot1 : Γ.hot (σ.objs.set 0 (some (MO.ext (tabE P0 (#[] ++ #[rawInt lamPos.line, rawInt lamPos.col, .ref c']))))) fps = Γ.hot σ.objs fps := by unfold Cx.hot; rw [alive_set hk0]
  have hcd : h'.get? c' = none ∨ c' ≠ h'.objs.size := .inr (Nat.ne_of_lt hlt)
  have C₂ := C₁.addExt (e := lamX h'.objs.size c' cel) (fp := [h'.objs.size, c']) (by simp [Nat.ne_of_gt hlt]) (fun a ha => by simp at ha; rcases ha with rfl | rfl; exact nl.1; exact nc.1) (fun a ha => by simp at ha; rcases ha with rfl | rfl; exact nl.2.1; exact nc.2.1)
    (fun a ha => by rw [show ({ σ with objs := σ.objs.set 0 (some (MO.ext (tabE P0 (#[] ++ #[rawInt lamPos.line, rawInt lamPos.col, .ref c'])))) } : St).objs = σ.objs.set 0 (some (MO.ext (tabE P0 (#[] ++ #[rawInt lamPos.line, rawInt lamPos.col, .ref c'])))) from rfl, hot1]; simp at ha; rcases ha with rfl | rfl; exact nl.2.2.1; exact nc.2.2.1)
    (fun a ha => by
      simp only [List.mem_cons, List.not_mem_nil, or_false] at ha
      obtain ⟨c, oc, fs, t, l2, l3, l4⟩ := hrec
      cases l2
      rcases ha with rfl | rfl
      · exact ⟨_, Heap.get?_push_size _ rfl⟩
      · exact ⟨_, Heap.get?_push_of_some _ l3⟩) (show _ ∧ _ from ⟨rfl, _, _, ctv, Heap.get?_push_size _ rfl, hrec.keeps fun b o e => Heap.get?_push_of_some _ e⟩)
  have r₂ : Rel pr w Γ K _ ((.obj (.ref h'.objs.size), .ref h'.objs.size) :: ps) _ := ⟨F, m', cm, _, C₂.cons (.obj _)⟩
  have hkl : k + 1 < σ.objs.length := (List.getElem?_eq_some_iff.mp hk).1
  refine (wp_name (σ := ⟨σ.loc, σ.objs.set 0 (some (MO.ext (tabE P0 (#[] ++ #[rawInt lamPos.line, rawInt lamPos.col, .ref c'])))) ++ [some (MO.ext (lamX h'.objs.size c' cel))]⟩) (Q := fun mv σ' => mv = .obj (.ref x) ∧ σ' = ⟨σ.loc, σ.objs.set 0 (some (MO.ext (tabE P0 (#[] ++ #[rawInt lamPos.line, rawInt lamPos.col, .ref c'])))) ++ [some (MO.ext (lamX h'.objs.size c' cel))]⟩) hn rfl ⟨rfl, rfl⟩) K _ _ _ r₂ fun mv' u σ₂ s₂ hq₂ r₃ => ?_
  obtain ⟨rfl, rfl⟩ := hq₂
  obtain rfl := r₃.obj
  have hk2 : ObjAt ⟨σ.loc, σ.objs.set 0 (some (MO.ext (tabE P0 (#[] ++ #[rawInt lamPos.line, rawInt lamPos.col, .ref c'])))) ++ [some (MO.ext (lamX h'.objs.size c' cel))]⟩ (k + 1) (.ext (insE C x d m)) := by
    show (σ.objs.set 0 _ ++ [_])[k + 1]? = some (some (.ext (insE C x d m)))
    rw [List.getElem?_append_left (by rw [List.length_set]; exact hkl), List.getElem?_set_ne (by omega)]; exact hk
  exact set_core L.cls (L.quiet _ (by decide)) (L.quiet _ (by decide)) (obj_lookup _ (by decide)) g2 hk2 hw (by decide) r₃.drop fun s' r' => hR .next .next _ s' (h _ _ _ nl.2.2.2 nc.2.2.2) ⟨rfl, r'⟩
end


theorem take7 {α : Type} : ∀ {l : List α} {a b c d e f g : α}, l[0]? = some a → l[1]? = some b → l[2]? = some c → l[3]? = some d → l[4]? = some e → l[5]? = some f → l[6]? = some g → ∃ r, l = a :: b :: c :: d :: e :: f :: g :: r
  | [], _, _, _, _, _, _, _, h, _, _, _, _, _, _ => by cases h
  | [_], _, _, _, _, _, _, _, _, h, _, _, _, _, _ => by cases h
  | [_, _], _, _, _, _, _, _, _, _, _, h, _, _, _, _ => by cases h
  | [_, _, _], _, _, _, _, _, _, _, _, _, _, h, _, _, _ => by cases h
  | [_, _, _, _], _, _, _, _, _, _, _, _, _, _, _, h, _, _ => by cases h
  | [_, _, _, _, _], _, _, _, _, _, _, _, _, _, _, _, _, h, _ => by cases h
  | [_, _, _, _, _, _], _, _, _, _, _, _, _, _, _, _, _, _, _, h => by cases h
  | _ :: _ :: _ :: _ :: _ :: _ :: _ :: r, _, _, _, _, _, _, _, h0, h1, h2, h3, h4, h5, h6 => by cases h0; cases h1; cases h2; cases h3; cases h4; cases h5; cases h6; exact ⟨r, rfl⟩

theorem sLx : ScopeOk (fScope bLx) ((["text"] : List Str) ++ (["signs", "stream"] : List Str)) := ⟨rfl, by decide +kernel, by decide +kernel, by decide +kernel⟩
theorem bLxB : ∀ doc pm cdv ct vs, vs.length = (["text"] : List Str).length → bindArgs (fnOf (fName bLx) "_law_lexer" (fArgs bLx) (fBody bLx) (fScope bLx) .none .none doc pm none cdv ct) ⟨vs, []⟩ = pure ((["text"] : List Str).zip vs) := by intro doc pm cdv ct vs h; match vs, h with | [v], _ => rfl
noncomputable abbrev glLx (C : Addr) : List (Str × MV) := [("list", .obj (.type "list")), ("_netrclex", .obj (.ref C))]
/-- what the text leaves -/
structure LxLeft (C P0 : Addr) (text : Str) (Γ : Cx) (mf : MF) (σ : St) (S x d P lam cd x' d' P' cel : Addr) (m m' : Str → Option Value) (ps' : Array Value) : Prop where
  ret : mf = .ret (.obj (.ref x'))
  objs : σ.objs = [some (.ext (tabE P0 ps')), some (.ext (strE S (strs1 text))), some (.ext (insE C x d m)), some (.ext (strE P [])), some (.ext (lamX lam cd cel)), some (.ext (insE C x' d' m')), some (.ext (strE P' []))]
  loc : (("signs" : Str), MV.obj (.ref S)) ∈ σ.loc
  cel : Γ.oc.lookup ("signs" : Str) = some cel
  kind : Γ.env.kindOf ("signs" : Str) = some .cell
  m : m "read" = some (.ref lam)
  m' : InitMap (.ref x) P' m'
  fresh : ∀ a ∈ [S, x, d, P, lam, cd, x', d', P'], Γ.sh.heap.get? a = none
inductive LxEnd (C P0 : Addr) (text : Str) (Γ : Cx) (mf : MF) (σ : St) : Prop
  | mk (S x d P lam cd x' d' P' cel : Addr) (m m' : Str → Option Value) (ps' : Array Value) (Z : LxLeft C P0 text Γ mf σ S x d P lam cd x' d' P' cel m m' ps') : LxEnd C P0 text Γ mf σ
theorem nodup9 {P0 S x d P lam cd x' d' P' cel : Nat} (n : [P0, S, x, d, P, lam, cd, x', d', P'].Nodup) (hc : ∀ b ∈ [P0, S, x, d, P, lam, cd, x', d', P'], cel ≠ b) : [x', d', P', x, d, S, cel, lam, cd].Nodup := by
  have h : [cel, P0, S, x, d, P, lam, cd, x', d', P'].Nodup := List.nodup_cons.mpr ⟨fun h => hc _ h rfl, n⟩
  have h2 : ([cel] ++ ([S] ++ ([x, d] ++ ([lam, cd] ++ [x', d', P'])))).Nodup := by
    refine h.sublist ?_
    exact .cons_cons _ (.cons _ (.cons_cons _ (.cons_cons _ (.cons_cons _ (.cons _ (.cons_cons _ (.cons_cons _ (.cons_cons _ (.cons_cons _ (.cons_cons _ .slnil))))))))))
  have p : ([cel] ++ ([S] ++ ([x, d] ++ ([lam, cd] ++ [x', d', P'])))).Perm ([x', d', P'] ++ ([x, d] ++ ([S] ++ ([cel] ++ [lam, cd])))) := by
    refine List.perm_iff_count.mpr fun a => ?_
    simp only [List.count_append]
    omega
  exact (p.nodup_iff).mp h2
theorem ws_cel {prog : Program} {w : World} {Γ : Cx} {σ : St} {QF : MF → St → Prop} {x : Str} {bs : List Stmt} (hx : x ∈ σ.loc.map (·.1)) (hk : Γ.env.kindOf x = some .cell) (h : ∀ c, Γ.oc.lookup x = some c → WPs prog w Γ σ bs QF) : WPs prog w Γ σ bs QF := by
  intro K ps s R r hR
  obtain ⟨F, m, cm, fps, C⟩ := r
  obtain ⟨_, h2⟩ := C.ok.kinds x (C.keys ▸ hx)
  rcases h2 with h2 | ⟨_, c, hc⟩
  · rw [hk] at h2; cases h2
  · exact h c hc K ps s R ⟨F, m, cm, fps, C⟩ hR
section
variable {w : World} {hB : Heap} {mg mb : Str → Option Value} {C N fi fr fg fq : Addr} {mN : Str → Option Value}
theorem mk_lexer {A : Around} {F : Frz} {s : Shared} {fl cd0 P0 : Addr} {v : Value} {text : Str} {R : Result → Shared → Prop} (T : TopF hB mg mb) (L : LexCls hB C N fi fr fg fq mN) (hi : IsFnC hB fi "_netrclex.__init__" bInit)
    {oc : Value} {od : Option Addr} {osl : Array (Option Value)} {pm ct doc : Value} (ho : hB.get? fl = some ⟨oc, od, .func (fnOf (fName bLx) "_law_lexer" (fArgs bLx) (fBody bLx) (fScope bLx) .none .none doc pm none (.ref cd0) ct), osl⟩) (hcr : hB.CodeRec (.ref cd0) "_law_lexer") (hhd : CodeHd hB cd0 P0) (hbt : hB.BuiltinsAt mg P0)
    (hgl : ∀ p ∈ glLx C, GlobAt w hB mg mb (fScope bLx) p) (hx : text.length ≤ 100000)
    (hd : A.depth + 4 < recursionLimit) (hu : A.units + 80 < cLine) (hh : A.handled = none) (htk : 1 ≤ s.toks) (hB1 : ∀ b o, hB.get? b = some o → F b = some o) (hF : ∀ b o, F b = some o → s.heap.get? b = some o)
    (hv : VR w F noρ (.str text) v) (hP0 : s.heap.get? P0 = some (tabObj #[])) (hFP : F P0 = none)
    (hR : ∀ (X : LX) ps' h' tk, s.toks ≤ tk → (∀ b o, b ≠ P0 → s.heap.get? b = some o → h'.get? b = some o) → h'.get? P0 = some (tabObj ps') → (∀ a ∈ X.fp, s.heap.get? a = none) → LexAt C w h' X 1 [] (strs1 text) → R (.ok (.ret (.ref X.x))) { s with heap := h', toks := tk }) :
    codeAny (model pr w) A (.call (.ref fl) ⟨[v], []⟩) R s := by
  refine call_core (ℓ := 3) (fp := [P0]) (e := tabE P0 #[]) (params := ["text"]) (rest := ["signs", "stream"]) (args := [.str text]) (glob := glLx C) (QF := fun Γ mf σ => LxEnd C P0 text Γ mf σ)
    ho hcr T.nolimit rfl rfl rfl rfl (bLxB doc pm (.ref cd0) ct) rfl sLx (GlobOk.of T rfl hgl) rfl rfl hd hu hh htk hB1 hF (VRs.cons hv VRs.nil) (show _ ∧ _ from ⟨rfl, hP0⟩) (by simp) (fun a ha => by simp at ha; subst ha; exact hFP) (fun a ha => by simp at ha; subst ha; exact ⟨_, hP0⟩) (fun Γ hΓ fr hcode => ?_) (fun Γ mf fl' σ' s' fr hq hr => ?_)
  · have hgl' : Γ.glob = glLx C := hΓ.2.2.1
    have hcode' : Γ.env.code = .ref cd0 := hcode
    show WPs pr w Γ ⟨[("text", .str text), ("signs", .undef), ("stream", .undef)], [some (.ext (tabE P0 #[]))]⟩ [_, _, _, _] _
    have hkind : Γ.env.kindOf ("signs" : Str) = some .cell := by
      show Γ.env.scope.names.lookup _ = _; rw [hΓ.1]; show (fScope bLx).names.lookup _ = _; decide +kernel
    refine ws_cel (x := "signs") (by simp) hkind fun cel hcel => ?_
    refine ws_cons (wx_listof hgl' (by tm_at "lk") (Nat.le_trans hx (by decide)) (wp_name (by tm_at "lk") rfl ⟨rfl, rfl⟩) (fun S hS => ?_) (fun _ => rfl) (fun _ => rfl) (fun _ => rfl))
    refine putq_there (putq_here (then_next (ws_cons (wx_assign ?_ (fun _ => rfl)))))
    refine wp_mkins T L hi hΓ (by decide) hgl' (by tm_at "lk") (mv₀ := .none) (v₀ := .none) (wp_none ⟨rfl, rfl⟩) (fun F ρ u h => by cases h; rfl) (fun x d P m hm fx fd fP => ?_) (fun _ => rfl) (fun _ => rfl)
    refine putq_there (putq_there (putq_here (then_next (ws_cons ?_))))
    refine wx_setlam T L hΓ rfl hcode' hhd hbt hcel (k := 1) (show ObjAt _ 0 _ from rfl) (show ObjAt _ 2 _ from rfl) (fun y hy => Classical.byContradiction fun q => hy (hm.none y q)) (by tm_at "lk") (fun lam cd ps' fl fcd => ?_) (fun _ => rfl)
    refine then_next (ws_cons (wx_return ?_))
    refine wp_mkins T L hi hΓ (by decide) hgl' (by tm_at "lk") (mv₀ := .obj (.ref x)) (v₀ := .ref x) (wp_name (by tm_at "lk") rfl ⟨rfl, rfl⟩) (fun F ρ u h => by cases h; rfl) (fun x' d' P' m' hm' fx' fd' fP' => ?_) (fun _ => rfl) (fun _ => rfl)
    refine then_ret ⟨S, x, d, P, lam, cd, x', d', P', cel, _, m', ps', rfl, rfl, .tail _ (.head _), hcel, hkind, if_pos rfl, hm', fun a ha => ?_⟩
    simp only [List.mem_cons, List.not_mem_nil, or_false] at ha
    rcases ha with rfl | rfl | rfl | rfl | rfl | rfl | rfl | rfl | rfl <;> assumption
  · obtain ⟨S, x, d, P, lam, cd, x', d', P', cel, m, m', ps', Z⟩ := hq
    obtain ⟨z1, z2, z3, z4, hkc, z5, z6, z7⟩ := Z
    subst z1
    obtain ⟨u, rfl, F', mm, cm, fps, Co⟩ := hr
    obtain rfl : u = .ref x' := by
      have : VR w F' (rho fps) (.obj (.ref x')) u := Co.ps (.obj (.ref x'), u) (.head _)
      cases this; rfl
    obtain ⟨h', tk', es⟩ := Co.same
    have tr : ∀ (k : Nat) (e : Ext), σ'.objs[k]? = some (some (MO.ext e)) → ∃ fp, fps[k]? = some fp ∧ e.rel w F' (rho fps) fp s'.heap := fun k e he => by
      obtain ⟨fp, h1, h2⟩ := Co.trk k _ he
      cases h2 with | ext _ _ _ hh => exact ⟨fp, h1, hh⟩
    obtain ⟨f0, a0, b0, c0⟩ := tr 0 (tabE P0 ps') (by rw [z2]; rfl)
    obtain ⟨f1, a1, b1, v1, n1, c1, d1⟩ := tr 1 (strE S (strs1 text)) (by rw [z2]; rfl)
    obtain ⟨f2, a2, b2, c2⟩ := tr 2 (insE C x d m) (by rw [z2]; rfl)
    obtain ⟨f3, a3, b3, c3⟩ := tr 3 (strE P []) (by rw [z2]; rfl)
    obtain ⟨f4, a4, b4, c4⟩ := tr 4 (lamX lam cd cel) (by rw [z2]; rfl)
    obtain ⟨f5, a5, b5, c5⟩ := tr 5 (insE C x' d' m') (by rw [z2]; rfl)
    obtain ⟨f6, a6, b6, v6, n6, c6, d6⟩ := tr 6 (strE P' []) (by rw [z2]; rfl)
    have hfps : ∃ l, fps = [P0] :: [S] :: [x, d] :: [P] :: [lam, cd] :: [x', d'] :: [P'] :: l := by
      rw [← b0, ← b1, ← b2, ← b3, ← b4, ← b5, ← b6]
      exact take7 a0 a1 a2 a3 a4 a5 a6
    obtain ⟨l, hfps⟩ := hfps
    have hot := Co.hot
    have hcm : cel ∈ Γ.oc.map (·.2) := List.mem_map.mpr ⟨(_, cel), mem_of_lookup z4, rfl⟩
    have hal : alive σ'.objs fps = [P0, S, x, d, P, lam, cd, x', d', P'] := by
      rw [z2, hfps]; cases l <;> rfl
    have hcell : s'.heap.IsCell cel (some (.ref S)) := by
      have h1 := Co.cell _ _ z4
      obtain ⟨u, g1, g2, g3⟩ := (Co.loc _ _ z3).resolve_left (by intro q; cases q)
      rw [g2 hkc] at h1
      have : u = .ref S := by cases g3; rfl
      rw [this] at h1; exact h1
    obtain ⟨n1', n2'⟩ := List.nodup_cons.mp hot
    obtain ⟨n3', n4', n5'⟩ := List.nodup_append.mp n2'
    rw [hal] at n4' n5'
    have hnc : ∀ b ∈ [P0, S, x, d, P, lam, cd, x', d', P'], cel ≠ b := fun b hb => n5' cel hcm b hb
    have htk' := Co.tok
    have hkept := Co.kept
    rw [fr.sh] at es z7
    rw [fr.lo] at htk'
    rw [es] at c0 c1 c2 c3 c4 c5 c6 hcell htk' hkept ⊢
    refine hR ⟨x', d', P', x, d, S, cel, lam, cd⟩ ps' h' tk' htk' (fun b o hb e => hkept b o ((if_neg (by simp [hb])).trans e)) c0 (fun a ha => ?_) ⟨?_, ⟨m', c5, ?_⟩, ⟨m, c2, z5⟩, ⟨v6, n6, c6, d6⟩, ⟨v1, n1, c1, d1⟩, hcell, c4⟩
    · simp only [LX.fp, List.mem_cons, List.not_mem_nil, or_false] at ha
      rcases ha with rfl | rfl | rfl | rfl | rfl | rfl | rfl | rfl | rfl
      · exact z7 _ (by simp)
      · exact z7 _ (by simp)
      · exact z7 _ (by simp)
      · exact z7 _ (by simp)
      · exact z7 _ (by simp)
      · exact z7 _ (by simp)
      · exact fr.oc _ _ z4
      · exact z7 _ (by simp)
      · exact z7 _ (by simp)
    · exact nodup9 n4' hnc
    · exact ⟨z6.line, z6.ins, z6.ws, z6.push, z6.none⟩
end



theorem sTer : ScopeOk (fScope bTer) ((["x"] : List Str) ++ ([] : List Str)) := ⟨rfl, by decide +kernel, by decide +kernel, by decide +kernel⟩
theorem sNon : ScopeOk (fScope bNon) ((["x"] : List Str) ++ ([] : List Str)) := ⟨rfl, by decide +kernel, by decide +kernel, by decide +kernel⟩
theorem sEof : ScopeOk (fScope bEof) ((["x"] : List Str) ++ ([] : List Str)) := ⟨rfl, by decide +kernel, by decide +kernel, by decide +kernel⟩
theorem bTerB : ∀ doc pm cdv ct vs, vs.length = (["x"] : List Str).length → bindArgs (fnOf (fName bTer) "ISTERMINAL" (fArgs bTer) (fBody bTer) (fScope bTer) .none .none doc pm none cdv ct) ⟨vs, []⟩ = pure ((["x"] : List Str).zip vs) := by intro doc pm cdv ct vs h; match vs, h with | [v], _ => rfl
theorem bNonB : ∀ doc pm cdv ct vs, vs.length = (["x"] : List Str).length → bindArgs (fnOf (fName bNon) "ISNONTERMINAL" (fArgs bNon) (fBody bNon) (fScope bNon) .none .none doc pm none cdv ct) ⟨vs, []⟩ = pure ((["x"] : List Str).zip vs) := by intro doc pm cdv ct vs h; match vs, h with | [v], _ => rfl
theorem bEofB : ∀ doc pm cdv ct vs, vs.length = (["x"] : List Str).length → bindArgs (fnOf (fName bEof) "ISEOF" (fArgs bEof) (fBody bEof) (fScope bEof) .none .none doc pm none cdv ct) ⟨vs, []⟩ = pure ((["x"] : List Str).zip vs) := by intro doc pm cdv ct vs h; match vs, h with | [v], _ => rfl
noncomputable abbrev glNT : List (Str × MV) := [("NT_OFFSET", .int 256)]
noncomputable abbrev glEM : List (Str × MV) := [("ENDMARKER", .int 0)]
section
variable {w : World} {hB : Heap} {mg mb : Str → Option Value}
theorem pf_ter (T : TopF hB mg mb) {f : Addr} (hf : IsFn hB f "ISTERMINAL" bTer) (hg : ∀ p ∈ glNT, GlobAt w hB mg mb (fScope bTer) p) {i : Int} : PureFn pr w 1 hB (.ref f) [.int i] (fun v => v = .bool (decide (i < 256))) := by
  refine PureFn.of_stmt T hf ["x"] [] glNT bTerB rfl sTer hg rfl rfl ?_
  intro Γ hΓ
  have hgl := hΓ.2.2.1
  show WPs pr w Γ ⟨[("x", .int i)], []⟩ [_] _
  tm_at "x"
  exact ⟨.bool, rfl⟩
theorem pf_non (T : TopF hB mg mb) {f : Addr} (hf : IsFn hB f "ISNONTERMINAL" bNon) (hg : ∀ p ∈ glNT, GlobAt w hB mg mb (fScope bNon) p) {i : Int} : PureFn pr w 1 hB (.ref f) [.int i] (fun v => v = .bool (decide (256 ≤ i))) := by
  refine PureFn.of_stmt T hf ["x"] [] glNT bNonB rfl sNon hg rfl rfl ?_
  intro Γ hΓ
  have hgl := hΓ.2.2.1
  show WPs pr w Γ ⟨[("x", .int i)], []⟩ [_] _
  tm_at "x"
  refine w2_ge ?_
  tm_at "x"
  exact ⟨.bool, rfl⟩
theorem pf_eof (T : TopF hB mg mb) {f : Addr} (hf : IsFn hB f "ISEOF" bEof) (hg : ∀ p ∈ glEM, GlobAt w hB mg mb (fScope bEof) p) {i : Int} : PureFn pr w 1 hB (.ref f) [.int i] (fun v => v = .bool (i == 0)) := by
  refine PureFn.of_stmt T hf ["x"] [] glEM bEofB rfl sEof hg rfl rfl ?_
  intro Γ hΓ
  have hgl := hΓ.2.2.1
  show WPs pr w Γ ⟨[("x", .int i)], []⟩ [_] _
  tm_at "x"
  exact ⟨.bool, rfl⟩
end
theorem tail_suf {α : Type} (xs : List α) : xs.tail <:+ xs := List.tail_suffix xs
theorem lexQ_suf : ∀ (n : Nat) (line : Int) (xs : List Str) (tok : Str), (lexQ n line xs tok).2.2.1 <:+ xs
  | 0, _, xs, _ => List.suffix_refl xs
  | _ + 1, _, [], _ => List.suffix_refl []
  | n + 1, line, x :: xs, tok => by
    unfold lexQ
    split
    · exact List.suffix_cons x xs
    · split
      · exact ((lexQ_suf n _ _ _).trans (tail_suf xs)).trans (List.suffix_cons x xs)
      · exact (lexQ_suf n _ _ _).trans (List.suffix_cons x xs)
theorem lexB_suf : ∀ (n : Nat) (line : Int) (xs : List Str) (tok : Str), (lexB n line xs tok).2.2.1 <:+ xs
  | 0, _, xs, _ => List.suffix_refl xs
  | _ + 1, _, [], _ => List.suffix_refl []
  | n + 1, line, x :: xs, tok => by
    unfold lexB
    split
    · exact List.suffix_cons x xs
    · split
      · exact ((lexB_suf n _ _ _).trans (tail_suf xs)).trans (List.suffix_cons x xs)
      · exact (lexB_suf n _ _ _).trans (List.suffix_cons x xs)
theorem lexO_suf : ∀ (n : Nat) (line : Int) (xs : List Str), (lexO n line xs).2.1 <:+ xs
  | 0, _, xs => List.suffix_refl xs
  | _ + 1, _, [] => List.suffix_refl []
  | n + 1, line, x :: xs => by
    unfold lexO
    split
    · exact (lexO_suf n _ _).trans (List.suffix_cons x xs)
    · split
      · exact (lexQ_suf n _ _ _).trans (List.suffix_cons x xs)
      · split
        · exact ((lexB_suf n _ _ _).trans (tail_suf xs)).trans (List.suffix_cons x xs)
        · exact (lexB_suf n _ _ _).trans (List.suffix_cons x xs)
theorem lexG_ok {line : Int} {xs : List Str} (hz : xs.length ≤ 90000) (hs : ∀ x ∈ xs, sgl x) : (lexG line xs).2.1.length ≤ 90000 ∧ ∀ x ∈ (lexG line xs).2.1, sgl x := by
  have h := lexO_suf (xs.length + 1) line xs
  exact ⟨Nat.le_trans h.length_le hz, fun x hx => hs x (h.mem hx)⟩
noncomputable def stops (s : Int) : Bool := s == 0 || !decide (s < 256)
/-- what _law_read tells -/
noncomputable def readS : Nat → Int → List Str → List Str → List Int → Option (List Str × List Int × List Int × Int × List Str)
  | 0, line, xs, words, row => some (words, row, [], line, xs)
  | n + 1, line, xs, words, row =>
    if (lexG line xs).2.2.length ≤ 1000 then
      match symS (lexG line xs).2.2 with
      | none => none
      | some sy => if sy.length ≤ 2000 then (if sy.any stops then some (words, row, sy, (lexG line xs).1, (lexG line xs).2.1) else readS n (lexG line xs).1 (lexG line xs).2.1 (words ++ [(lexG line xs).2.2]) (row ++ sy)) else none
    else none
theorem sRd : ScopeOk (fScope bRd) ((["lexer"] : List Str) ++ (["words", "row", "k", "word", "symbols"] : List Str)) := ⟨rfl, by decide +kernel, by decide +kernel, by decide +kernel⟩
theorem bRdB : ∀ doc pm cdv ct vs, vs.length = (["lexer"] : List Str).length → bindArgs (fnOf (fName bRd) "_law_read" (fArgs bRd) (fBody bRd) (fScope bRd) .none .none doc pm none cdv ct) ⟨vs, []⟩ = pure ((["lexer"] : List Str).zip vs) := by intro doc pm cdv ct vs h; match vs, h with | [v], _ => rfl
noncomputable abbrev glRd (fs fe ft : Addr) : List (Str × MV) := [("range", .obj (.type "range")), ("_law_symbols", .obj (.ref fs)), ("ISEOF", .obj (.ref fe)), ("ISTERMINAL", .obj (.ref ft))]
noncomputable def GlobV (w : World) (hB : Heap) (mg mb : Str → Option Value) (p : Str × MV) : Prop :=
  (p.1 == ("__debug__" : Str)) = false ∧ ∃ v, VR w (fun b => hB.get? b) noρ p.2 v ∧ (mg p.1 = some v ∨ (mg p.1 = none ∧ mb p.1 = some v))
theorem GlobV.at {w : World} {hB : Heap} {mg mb : Str → Option Value} {p : Str × MV} {sc : Scope} (h : GlobV w hB mg mb p) (hl : sc.names.lookup p.1 = some .globalImplicit) : GlobAt w hB mg mb sc p := ⟨h.1, hl, h.2⟩
noncomputable abbrev glTE (fe ft : Addr) : List (Str × MV) := [("ISEOF", .obj (.ref fe)), ("ISTERMINAL", .obj (.ref ft))]
noncomputable abbrev glR2 (fs : Addr) : List (Str × MV) := [("range", .obj (.type "range")), ("_law_symbols", .obj (.ref fs))]
noncomputable abbrev locR (X : LX) (z1 z2 z3 : MV) : List (Str × MV) := [("lexer", .obj (.ref X.x)), ("words", .mu 1), ("row", .mu 2), ("k", z1), ("word", z2), ("symbols", z3)]
theorem ints_cl (l : List Int) : Closed (.list (l.map .int)) := Closed.list fun y hy => by obtain ⟨i, _, rfl⟩ := List.mem_map.mp hy; exact .int
theorem strs_cl (l : List Str) : Closed (.list (l.map .str)) := Closed.list fun y hy => by obtain ⟨i, _, rfl⟩ := List.mem_map.mp hy; exact .str
theorem filt_ints (t : Int → Bool) (l : List Int) : [] ++ (List.filter (fun y => match y with | .int s => t s | _ => false) (List.map MV.int l)).map (fun y => y) = (l.filter t).map MV.int := by
  rw [List.map_id', List.nil_append]
  induction l with
  | nil => rfl
  | cons c l ih =>
    rw [List.map_cons, List.filter_cons, List.filter_cons]
    dsimp only
    split
    · rw [ih]; rfl
    · exact ih
theorem any_filt (t : Int → Bool) (l : List Int) : l.any t = !(l.filter t).isEmpty := by
  induction l with
  | nil => rfl
  | cons c l ih =>
    rw [List.any_cons, List.filter_cons]
    split
    · rename_i h; rw [h]; rfl
    · rename_i h; rw [show t c = false by simpa using h, Bool.false_or]; exact ih
section
variable {w : World} {hB : Heap} {mg mb : Str → Option Value} {C N fi fr fg fq fs fe ft : Addr} {mN : Str → Option Value} {X : LX}
theorem read_loop {Γ : Cx} {body : List Stmt} {kp : Pos} {QF : MF → St → Prop} (T : TopF hB mg mb) (L : LexCls hB C N fi fr fg fq mN) (hfr : IsFnC hB fr "_netrclex._read_char" bRead) (hfg : IsFnC hB fg "_netrclex.get_token" bGet) (hgG : ∀ p ∈ glG, GlobAt w hB mg mb (fScope bGet) p)
    (hfs : IsFn hB fs "_law_symbols" bSymbols) (hgS : ∀ p ∈ glS, GlobAt w hB mg mb (fScope bSymbols) p) (hfe : IsFn hB fe "ISEOF" bEof) (hgE : ∀ p ∈ glEM, GlobAt w hB mg mb (fScope bEof) p) (hft : IsFn hB ft "ISTERMINAL" bTer) (hgT : ∀ p ∈ glNT, GlobAt w hB mg mb (fScope bTer) p)
    (hgV : ∀ p ∈ glTE fe ft, GlobV w hB mg mb p) (hΓ : Γof (fScope bRd) Γ hB 7 (glR2 fs)) (hb : body = forBody (fBody bRd)[2]?) {r : List Str × List Int × List Int × Int × List Str} :
    ∀ (items : List MV) (line : Int) (xs : List Str) (words : List Str) (row : List Int) (z1 z2 z3 : MV), words.length + items.length ≤ 100 → row.length + 2000 * items.length ≤ 100000 → xs.length ≤ 90000 → (∀ x ∈ xs, sgl x) →
      readS items.length line xs words row = some r →
      (∀ z1 z2 z3, QF (.ret (.tup [.list (r.1.map .str), .list (r.2.1.map .int), .list (r.2.2.1.map .int)])) ⟨[("lexer", .obj (.ref X.x)), ("words", .list (r.1.map .str)), ("row", .list (r.2.1.map .int)), ("k", z1), ("word", z2), ("symbols", z3)], [some (.ext (lexE C X r.2.2.2.1 [] r.2.2.2.2)), none, none]⟩) →
      (∀ z1 z2 z3, r.2.2.1 = [] → QF .next ⟨locR X z1 z2 z3, [some (.ext (lexE C X r.2.2.2.1 [] r.2.2.2.2)), some (.lst (r.1.map .str)), some (.lst (r.2.1.map .int))]⟩) →
      WPf pr w Γ (.Name "k" kp) body QF items ⟨locR X z1 z2 z3, [some (.ext (lexE C X line [] xs)), some (.lst (words.map .str)), some (.lst (row.map .int))]⟩ := by
  subst hb
  have hgl : Γ.glob = glR2 fs := hΓ.2.2.1
  intro items
  induction items with
  | nil =>
    intro line xs words row z1 z2 z3 _ _ _ _ h _ hend
    simp only [List.length_nil, readS] at h
    cases h
    exact hend z1 z2 z3 rfl
  | cons y items ih =>
    intro line xs words row z1 z2 z3 hwl hrl hz hs h hret hend
    show WU1 pr w Γ _ y (assign (.Name "k" kp) Γ.env) _
    refine wa_name (.there _ (.there _ (.there _ (.here _ _)))) ?_
    show WPs pr w Γ ⟨locR X y z2 z3, [some (.ext (lexE C X line [] xs)), some (.lst (words.map .str)), some (.lst (row.map .int))]⟩ [_, _, _, _, _] _
    simp only [List.length_cons] at hwl hrl
    rw [List.length_cons] at h
    unfold readS at h
    have hok := lexG_ok (line := line) hz hs
    generalize hG : lexG line xs = G at h hok
    obtain ⟨line', xs', tok⟩ := G
    dsimp only at h hok
    by_cases htl : tok.length ≤ 1000
    case neg => rw [if_neg htl] at h; cases h
    rw [if_pos htl] at h
    cases hsy : symS tok with
    | none => rw [hsy] at h; cases h
    | some sy =>
    rw [hsy] at h
    dsimp only at h
    by_cases hsl : sy.length ≤ 2000
    case neg => rw [if_neg hsl] at h; cases h
    rw [if_pos hsl] at h
    refine ws_cons ?_
    refine' wx_assign ?_ ?hs
    case hs => intro _; rfl
    refine' wp_method ?_ ?he ?hc
    case he => intro _ _; rfl
    case hc => intro _; rfl
    tm_at "x"
    refine wm_meth L hΓ.2.1 (k := 0) (show ObjAt _ 0 _ from rfl) L.mg hfg (by decide) (obj_lookup _ (by decide)) (wl_nil ?_)
    refine wc_ext hΓ (xf_get (push := []) T L hfr hfg hgG (by decide) hz hs) hfg.fn (by decide) (fun y hy => by simp at hy; subst hy; exact .obj) (k := 0) (show ObjAt _ 0 _ from rfl) fun mv e' hP => ?_
    obtain ⟨rfl, rfl⟩ := hP
    rw [hG]
    tm_at "x"
    refine wc_pure hΓ (pf_symbols T hfs hgS htl hsy) hfs (by decide) (fun y hy => by simp at hy; subst hy; exact .str) fun v hv => ?_
    subst hv
    refine putq_there (putq_there (putq_there (putq_there (putq_there (putq_here (then_next (ws_cons (wx_if ?_))))))))
    refine' wt_compare ?_ ?hm
    case hm => exact rfl
    refine wp_compD hΓ ["s"] [] (glTE fe ft) [] rfl ⟨rfl, by decide +kernel, by decide +kernel, by decide +kernel, by decide +kernel, by decide +kernel, by decide +kernel⟩ (GlobOk.of T rfl fun p hp => (hgV p hp).at (by
      simp only [glTE, List.mem_cons, List.not_mem_nil, or_false] at hp
      rcases hp with rfl | rfl
      · show List.lookup ("ISEOF" : Str) _ = _; decide +kernel
      · show List.lookup ("ISTERMINAL" : Str) _ = _; decide +kernel)) (fun x h => nomatch h) ?_ (fun _ _ => rfl)
    tm_at "x"
    refine ⟨_, Itr.list _ _ _, by rw [List.length_map]; exact Nat.le_trans hsl (by decide), (fun p hp => by cases hp), ?_⟩
    refine comp_map (fun y => match y with | .int s => stops s | _ => false) (fun y => y) _ _ _ ?_ ?_ ?_
    · intro y hy _
      obtain ⟨c, _, rfl⟩ := List.mem_map.mp hy
      exact .int
    · intro y hy Γ' hΓ''
      obtain ⟨c, _, rfl⟩ := List.mem_map.mp hy
      have hgl'' : Γ'.glob = glTE fe ft := hΓ''.2.2.1
      refine wa_name (.here .undef []) (wi_one (wt_bool (wall_or_cons (wt_value ?_ (fun _ _ => rfl)))))
      tm_at "x"
      refine wc_pure hΓ'' (pf_eof T hfe hgE) hfe (by decide) (fun y hy => by simp at hy; subst hy; exact .int) fun v hv => ?_
      subst hv
      refine wb_bool ⟨fun hb => ⟨?_, rfl, fun _ => ?_⟩, fun hb => wall_or_cons (wt_not (wt_value ?_ (fun _ _ => rfl)))⟩
      · show true = stops c
        unfold stops; rw [show (c == 0) = true from hb]; rfl
      · tm_at "x"; exact ⟨rfl, rfl⟩
      · tm_at "x"
        refine wc_pure hΓ'' (pf_ter T hft hgT) hft (by decide) (fun y hy => by simp at hy; subst hy; exact .int) fun v hv => ?_
        subst hv
        refine wb_bool ⟨fun hb2 => ⟨?_, rfl, fun _ => ?_⟩, fun hb2 => wall_or_nil ⟨?_, rfl, fun _ => ?_⟩⟩
        · show true = stops c
          unfold stops; rw [hb2, Bool.or_true]
        · tm_at "x"; exact ⟨rfl, rfl⟩
        · show false = stops c
          unfold stops; rw [hb2, show (c == 0) = false from hb]; rfl
        · tm_at "x"; exact ⟨rfl, rfl⟩
    rw [show [] ++ (List.filter (fun y => match y with | .int s => stops s | _ => false) (List.map MV.int sy)).map (fun y => y) = (sy.filter stops).map MV.int from filt_ints _ _]
    refine wp_list (wl_nil ⟨Nat.zero_le _, ?_⟩)
    refine w2_neD (dx := .list ((sy.filter stops).map .int)) (dy := .list []) (IsD.mapI _) (IsD.list [] [] rfl (fun i x d h => by simp at h)) (lay_ints _) rfl (Nat.le_trans (depth_ints _) (by decide)) ?_
    rw [eqv_nil]
    refine wb_bool ⟨fun hb => ?_, fun hb => ?_⟩
    · have hany : sy.any stops = true := by
        rw [any_filt]; exact hb
      rw [if_pos hany] at h
      cases h
      refine ws_freeze (x := "words") (k := 1) (xs := words.map .str) (by tm_at "lk") rfl ?_
      refine putq_there (putq_here ?_)
      refine ws_freeze (x := "row") (k := 2) (xs := row.map .int) (by tm_at "lk") rfl ?_
      refine putq_there (putq_there (putq_here ?_))
      tm_at "x"
      exact hret _ _ _
    · have hany : ¬ sy.any stops = true := by
        rw [any_filt, hb]; simp
      rw [if_neg hany] at h
      refine ws_nil (then_next (ws_cons ?_))
      tm_at "x"
      refine wm_mu (xs := words.map .str) rfl PySem.F.slot_list_append PySem.F.type_list_append ?_
      tm_at "x"
      refine wc_append (xs := words.map .str) rfl (by rw [List.length_map]; show _ ≤ 16777216; omega) ?_
      tm_at "x"
      refine wm_mu (xs := row.map .int) rfl PySem.F.slot_list_extend PySem.F.type_list_extend ?_
      tm_at "x"
      refine wc_extend (xs := row.map .int) rfl (by rw [List.length_map, List.length_map]; show _ ≤ 16777216; omega) ?_
      tm_at "x"
      have := ih line' xs' (words ++ [tok]) (row ++ sy) y (.str tok) (.list (sy.map .int)) (by simp; omega) (by simp; omega) hok.1 hok.2 h hret hend
      rw [List.map_append, List.map_append] at this
      exact this
theorem xf_rd {fl : Addr} (T : TopF hB mg mb) (L : LexCls hB C N fi fr fg fq mN) (hf : IsFn hB fl "_law_read" bRd) (hfr : IsFnC hB fr "_netrclex._read_char" bRead) (hfg : IsFnC hB fg "_netrclex.get_token" bGet) (hgG : ∀ p ∈ glG, GlobAt w hB mg mb (fScope bGet) p)
    (hfs : IsFn hB fs "_law_symbols" bSymbols) (hgS : ∀ p ∈ glS, GlobAt w hB mg mb (fScope bSymbols) p) (hfe : IsFn hB fe "ISEOF" bEof) (hgE : ∀ p ∈ glEM, GlobAt w hB mg mb (fScope bEof) p) (hft : IsFn hB ft "ISTERMINAL" bTer) (hgT : ∀ p ∈ glNT, GlobAt w hB mg mb (fScope bTer) p)
    (hgV : ∀ p ∈ glTE fe ft, GlobV w hB mg mb p) (hgR : ∀ p ∈ glR2 fs, GlobAt w hB mg mb (fScope bRd) p) {line : Int} {xs : List Str} (hz : xs.length ≤ 90000) (hs : ∀ x ∈ xs, sgl x) {r : List Str × List Int × List Int × Int × List Str} (hr : readS 25 line xs [] [] = some r) :
    ExtFn pr w 8 hB (.ref fl) [.obj (.ref X.x)] (lexE C X line [] xs) (fun v e => v = .tup [.list (r.1.map .str), .list (r.2.1.map .int), .list (r.2.2.1.map .int)] ∧ e = lexE C X r.2.2.2.1 [] r.2.2.2.2) := by
  refine ExtFn.of_stmt T hf ["lexer"] ["words", "row", "k", "word", "symbols"] (glR2 fs) bRdB rfl sRd hgR rfl rfl ?_
  intro Γ hΓ
  have hgl : Γ.glob = glR2 fs := hΓ.2.2.1
  have cl : ∀ r : List Str × List Int × List Int × Int × List Str, Closed (.tup [.list (r.1.map .str), .list (r.2.1.map .int), .list (r.2.2.1.map .int)]) := fun r => Closed.tup fun y hy => by
    simp only [List.mem_cons, List.not_mem_nil, or_false] at hy
    rcases hy with rfl | rfl | rfl
    · exact strs_cl _
    · exact ints_cl _
    · exact ints_cl _
  show WPs pr w Γ ⟨[("lexer", .obj (.ref X.x)), ("words", .undef), ("row", .undef), ("k", .undef), ("word", .undef), ("symbols", .undef)], [some (.ext (lexE C X line [] xs))]⟩ [_, _, _, _] _
  refine ws_cons (wx_new (wl_nil ⟨Nat.zero_le _, ?_⟩))
  refine putq_there (putq_here (then_next (ws_cons (wx_new (wl_nil ⟨Nat.zero_le _, ?_⟩)))))
  refine putq_there (putq_there (putq_here (then_next (ws_cons (wx_for ?_ (fun _ _ => rfl))))))
  tm_at "x"
  refine wc_range1 ?_
  refine ⟨_, Itr.rng _ _ 0 25 rfl rfl, ?_⟩
  refine read_loop T L hfr hfg hgG hfs hgS hfe hgE hft hgT hgV hΓ rfl (intsOf 0 25) line xs [] [] .undef .undef .undef (by decide) (by decide) hz hs hr (fun z1 z2 z3 => ?_) fun z1 z2 z3 he => ?_
  · exact then_ret ⟨_, _, rfl, cl r, rfl, rfl⟩
  · refine then_next ?_
    refine ws_freeze (x := "words") (k := 1) (xs := r.1.map .str) (by tm_at "lk") rfl ?_
    refine putq_there (putq_here ?_)
    refine ws_freeze (x := "row") (k := 2) (xs := r.2.1.map .int) (by tm_at "lk") rfl ?_
    refine putq_there (putq_there (putq_here ?_))
    tm_at "x"
    have := cl r
    rw [he] at this ⊢
    exact ⟨_, _, rfl, this, rfl, rfl⟩
end



section
variable {w : World} {hB : Heap} {mg mb : Str → Option Value} {C N fi fr fg fq : Addr} {mN : Str → Option Value}
/-- what _law_lexer is -/
structure LxFn (w : World) (hB : Heap) (mg mb : Str → Option Value) (C fl cd0 P0 : Addr) : Prop where
  fn : ∃ oc od osl pm ct doc, hB.get? fl = some ⟨oc, od, .func (fnOf (fName bLx) "_law_lexer" (fArgs bLx) (fBody bLx) (fScope bLx) .none .none doc pm none (.ref cd0) ct), osl⟩
  rec_ : hB.CodeRec (.ref cd0) "_law_lexer"
  hd : CodeHd hB cd0 P0
  bt : hB.BuiltinsAt mg P0
  gl : ∀ p ∈ glLx C, GlobAt w hB mg mb (fScope bLx) p
theorem wc_mklex {Γ : Cx} {σ : St} {Q : MV → St → Prop} {sc : Scope} {ℓ k : Nat} {gl : List (Str × MV)} {fl cd0 P0 : Addr} {text : Str} (T : TopF hB mg mb) (L : LexCls hB C N fi fr fg fq mN) (hi : IsFnC hB fi "_netrclex.__init__" bInit) (X0 : LxFn w hB mg mb C fl cd0 P0) (hx : text.length ≤ 100000)
    (hΓ : Γof sc Γ hB ℓ gl) (hℓ : 5 ≤ ℓ) (hk : ObjAt σ k (.ext (tabE P0 #[]))) (h : ∀ X ps', Q (.obj (.ref X.x)) ⟨σ.loc, (σ.objs.set k (some (.ext (tabE P0 ps')))) ++ [some (.ext (lexE C X 1 [] (strs1 text)))]⟩) : WPc pr w Γ σ (.ref fl) [.str text] Q := by
  intro K ps vs s R hl r hR
  obtain ⟨v, rfl, r⟩ := r.one hl
  obtain ⟨F, m, cm, fps, Co⟩ := r
  obtain ⟨g1, g2, g3, g4, g5, g6, g7⟩ := hΓ
  obtain ⟨oc, od, osl, pm, ct, doc, ho⟩ := X0.fn
  have hfs := Co.frz fl _ (Co.base fl _ (g2 fl _ ho))
  have hv : VR w F noρ (.str text) v := by
    have : VR w F (rho fps) (.str text) v := Co.ps (.str text, v) (.head _)
    exact Closed.str w F _ v this
  have Co := Co.drop
  obtain ⟨fp, hfp, hor⟩ := Co.trk k _ hk
  have hrel : fp = [P0] ∧ s.heap.get? P0 = some (tabObj #[]) := by cases hor with | ext _ _ _ hh => exact hh
  obtain ⟨rfl, hP0⟩ := hrel
  have hFP : F P0 = none := by
    cases q : F P0 with
    | none => rfl
    | some o => exact absurd (Co.mem_hot hk hfp (.head _)) (Co.frzH P0 o q)
  refine ⟨kept_fn hfs rfl, wpAny_call (mk_lexer (F := F) T L hi ho X0.rec_ X0.hd X0.bt X0.gl hx (by omega) (by omega) Co.ok.handled (Nat.le_trans Co.ok.lo1 Co.tok) (fun b o e => Co.base b o (g2 b o e)) Co.frz hv hP0 hFP fun X ps' h' tk ht hk2 hP hfr hL => ?_)⟩
  have hs : ∀ b x, b ∉ [P0] → s.heap.get? b = some x → h'.get? b = some x := fun b x hb e => hk2 b x (fun q => hb (by simp [q])) e
  have C₁ := Co.turnObj (F' := F) hk hfp hs (fun a ha => by simp at ha; subst ha; exact ⟨_, hP⟩) (Sub.refl F) (fun b x e => hs b x (fun q => Co.frzH b x e (Co.mem_hot hk hfp q)) (Co.frz b x e)) (fun _ _ e => .inl e) (.ext (tabE P0 ps') [P0] _ (show _ ∧ _ from ⟨rfl, hP⟩)) (fun _ e => by cases e) tk ht
  have hot1 : Γ.hot (σ.objs.set k (some (.ext (tabE P0 ps')))) fps = Γ.hot σ.objs fps := by unfold Cx.hot; rw [alive_set hk]
  have hliv : ∀ a ∈ X.fp, ∃ x, h'.get? a = some x := by
    obtain ⟨m, ⟨⟨o, i1, _⟩, _, ⟨o2, _, _, i2, _⟩, _⟩, _⟩ := hL.ins
    obtain ⟨m', ⟨⟨o3, i3, _⟩, _, ⟨o4, _, _, i4, _⟩, _⟩, _⟩ := hL.str
    obtain ⟨vs, n, p1, _⟩ := hL.push
    obtain ⟨us, n', c1, _⟩ := hL.chars
    obtain ⟨o5, e1, _⟩ := hL.cell
    obtain ⟨q, pm, ctv, l1, c, oc, fs, t, l2, l3, l4⟩ := hL.lam
    cases l2
    intro a ha
    simp only [LX.fp, List.mem_cons, List.not_mem_nil, or_false] at ha
    rcases ha with rfl | rfl | rfl | rfl | rfl | rfl | rfl | rfl | rfl
    · exact ⟨_, i1⟩
    · exact ⟨_, i2⟩
    · exact ⟨_, p1⟩
    · exact ⟨_, i3⟩
    · exact ⟨_, i4⟩
    · exact ⟨_, c1⟩
    · exact ⟨_, e1⟩
    · exact ⟨_, l1⟩
    · exact ⟨_, l3⟩
  have C₂ := C₁.addExt (e := lexE C X 1 [] (strs1 text)) (fp := X.fp) hL.nodup (fun a ha => (Co.newF (hfr a ha)).1) (fun a ha => (Co.newF (hfr a ha)).2.1) (fun a ha => by
    show a ∉ Γ.hot (σ.objs.set k (some (.ext (tabE P0 ps')))) fps
    rw [hot1]; exact (Co.newF (hfr a ha)).2.2.1) hliv (show _ ∧ _ from ⟨rfl, hL⟩)
  exact hR (.obj (.ref X.x)) (.ref X.x) _ _ (h X ps') ⟨F, m, cm, _, C₂.cons (.obj _)⟩
end



noncomputable abbrev locL (sc cells k x p q page spelled symbols lexer words first end_ lines word second nothing a b c d less more m n common low total : MV) : List (Str × MV) :=
  [("script", sc), ("cells", cells), ("k", k), ("x", x), ("p", p), ("q", q), ("page", page), ("spelled", spelled), ("symbols", symbols), ("lexer", lexer), ("words", words), ("first", first), ("end", end_), ("lines", lines), ("word", word), ("second", second), ("nothing", nothing), ("a", a), ("b", b), ("c", c), ("d", d), ("less", less), ("more", more), ("m", m), ("n", n), ("common", common), ("low", low), ("total", total)]
noncomputable abbrev glLaw (fpg fan flx frd fsy fst : Addr) : List (Str × MV) := [("enumerate", .obj (.type "enumerate")), ("_law_page", .obj (.ref fpg)), ("_law_answers", .obj (.ref fan)), ("_law_lexer", .obj (.ref flx)), ("_law_read", .obj (.ref frd)), ("_law_symbols", .obj (.ref fsy)), ("len", .obj (.builtin "len")), ("_law_steps", .obj (.ref fst)), ("max", .obj (.builtin "max")), ("range", .obj (.type "range"))]
theorem sLaw : ScopeOk (fScope bLaw) ((["script"] : List Str) ++ (["cells", "k", "x", "p", "q", "page", "spelled", "symbols", "lexer", "words", "first", "end", "lines", "word", "second", "nothing", "a", "b", "c", "d", "less", "more", "m", "n", "common", "low", "total"] : List Str)) := ⟨rfl, by decide +kernel, by decide +kernel, by decide +kernel⟩
theorem bLawB : ∀ doc pm cdv ct vs, vs.length = (["script"] : List Str).length → bindArgs (fnOf (fName bLaw) "law" (fArgs bLaw) (fBody bLaw) (fScope bLaw) .none .none doc pm none cdv ct) ⟨vs, []⟩ = pure ((["script"] : List Str).zip vs) := by intro doc pm cdv ct vs h; match vs, h with | [v], _ => rfl
/-- two ways down -/
noncomputable def sbF : List Int → Int × Int × Int × Int → Int × Int × Int × Int
  | [], z => z
  | s :: l, (a, b, c, d) => sbF l (a + moreN s * (c + lessN s * a), b + moreN s * (d + lessN s * b), c + lessN s * a, d + lessN s * b)
noncomputable def cwF : List Int → Int × Int → Int × Int
  | [], z => z
  | s :: l, (m, n) => cwF l (m + moreN s * (n + lessN s * m), n + lessN s * m)
noncomputable def divs (p q : Int) : List Int := (intsOf 1 (p + 1)).filterMap fun v => match v with | .int k => if p.fmod k == 0 && q.fmod k == 0 then some k else none | _ => none
theorem mulL (s a : Int) : IntMulOk (lessN s) a := .of_left (intBits_le_64 (by unfold lessN; split <;> (try decide); split <;> (try decide); split <;> decide) (by unfold lessN; split <;> (try decide); split <;> (try decide); split <;> decide))
theorem mulM (s a : Int) : IntMulOk (moreN s) a := .of_left (intBits_le_64 (by unfold moreN; split <;> (try decide); split <;> (try decide); split <;> decide) (by unfold moreN; split <;> (try decide); split <;> (try decide); split <;> decide))
section
variable {w : World} {hB : Heap} {mg mb : Str → Option Value}
noncomputable abbrev stepsMV (row : List Int) : List MV := row.map fun s => .tup [.int (lessN s), .int (moreN s)]
theorem sb_loop {Γ : Cx} {QF : MF → St → Prop} {body : List Stmt} {sc cells k x p q page spelled symbols lexer words first end_ lines word second nothing m n common low total : MV} {os : List (Option MO)} (hsc : Γ.env.scope = fScope bLaw) (hb : body = forBody (fBody bLaw)[17]?) {tp p1 p2 : Pos} {tk : Nat} :
    ∀ (row : List Int) (a b c d : Int) (z1 z2 : MV), (∀ z1 z2, QF .next ⟨locL sc cells k x p q page spelled symbols lexer words first end_ lines word second nothing (.int (sbF row (a, b, c, d)).1) (.int (sbF row (a, b, c, d)).2.1) (.int (sbF row (a, b, c, d)).2.2.1) (.int (sbF row (a, b, c, d)).2.2.2) z1 z2 m n common low total, os⟩) →
      WPf pr w Γ (.Tuple [.Name "less" p1, .Name "more" p2] tk tp) body QF (stepsMV row) ⟨locL sc cells k x p q page spelled symbols lexer words first end_ lines word second nothing (.int a) (.int b) (.int c) (.int d) z1 z2 m n common low total, os⟩ := by
  subst hb
  intro row
  induction row with
  | nil => intro a b c d z1 z2 h; exact h z1 z2
  | cons s row ih =>
    intro a b c d z1 z2 h
    show WU1 pr w Γ _ (.tup [.int (lessN s), .int (moreN s)]) (assign _ Γ.env) _
    refine wa_tuple ?_
    tm_at "x"
    show WPs pr w Γ ⟨locL sc cells k x p q page spelled symbols lexer words first end_ lines word second nothing (.int a) (.int b) (.int c) (.int d) (.int (lessN s)) (.int (moreN s)) m n common low total, os⟩ [_, _] _
    refine ws_cons ?_
    refine' wx_swap2 "c" "d" ?_ ?hs ?hw
    case hs => intro _; rfl
    case hw => exact swapped_of hsc rfl
    tm_at "x"
    refine w2_mul (mulL _ _) ?_
    tm_at "x"
    refine w2_mul (mulL _ _) ?_
    tm_at "x"
    refine' wx_swap2 "a" "b" ?_ ?hs ?hw
    case hs => intro _; rfl
    case hw => exact swapped_of hsc rfl
    tm_at "x"
    refine w2_mul (mulM _ _) ?_
    tm_at "x"
    refine w2_mul (mulM _ _) ?_
    tm_at "x"
    exact ih _ _ _ _ _ _ h
theorem cw_loop {Γ : Cx} {QF : MF → St → Prop} {body : List Stmt} {sc cells k x p q page spelled symbols lexer words first end_ lines word second nothing a b c d common low total : MV} {os : List (Option MO)} (hb : body = forBody (fBody bLaw)[19]?) {tp p1 p2 : Pos} {tk : Nat} :
    ∀ (row : List Int) (m n : Int) (z1 z2 : MV), (∀ z1 z2, QF .next ⟨locL sc cells k x p q page spelled symbols lexer words first end_ lines word second nothing a b c d z1 z2 (.int (cwF row (m, n)).1) (.int (cwF row (m, n)).2) common low total, os⟩) →
      WPf pr w Γ (.Tuple [.Name "less" p1, .Name "more" p2] tk tp) body QF (stepsMV row) ⟨locL sc cells k x p q page spelled symbols lexer words first end_ lines word second nothing a b c d z1 z2 (.int m) (.int n) common low total, os⟩ := by
  subst hb
  intro row
  induction row with
  | nil => intro m n z1 z2 h; exact h z1 z2
  | cons s row ih =>
    intro m n z1 z2 h
    show WU1 pr w Γ _ (.tup [.int (lessN s), .int (moreN s)]) (assign _ Γ.env) _
    refine wa_tuple ?_
    tm_at "x"
    show WPs pr w Γ ⟨locL sc cells k x p q page spelled symbols lexer words first end_ lines word second nothing a b c d (.int (lessN s)) (.int (moreN s)) (.int m) (.int n) common low total, os⟩ [_, _] _
    tm_at "x"
    refine w2_mul (mulL _ _) ?_
    tm_at "x"
    refine w2_mul (mulM _ _) ?_
    tm_at "x"
    exact ih _ _ _ _ h
end



noncomputable def divT (p q : Int) : MV → Bool := fun v => match v with | .int k => p.fmod k == 0 && q.fmod k == 0 | _ => false
theorem divs_eq (p q : Int) : [] ++ ((intsOf 1 (p + 1)).filter (divT p q)).map (fun y => y) = (divs p q).map MV.int := by
  rw [List.map_id', List.nil_append]
  unfold divs intsOf
  induction List.range (p + 1 - 1).toNat with
  | nil => rfl
  | cons i l ih =>
    simp only [List.map_cons, List.filter_cons, List.filterMap_cons]
    by_cases h : (p.fmod (1 + (i : Int)) == 0 && q.fmod (1 + (i : Int)) == 0) = true
    · rw [if_pos (show divT p q (.int (1 + (i : Int))) = true from h), if_pos h, ih]; rfl
    · rw [if_neg (show ¬ divT p q (.int (1 + (i : Int))) = true from h), if_neg h, ih]
theorem isd_pair (a b : Int) : IsD (.tup [.int a, .int b]) (.tuple [.int a, .int b]) := .tup _ _ rfl fun i x d h1 h2 => by
  match i, h1, h2 with
  | 0, h1, h2 => cases h1; cases h2; exact .int a
  | 1, h1, h2 => cases h1; cases h2; exact .int b
theorem eqv_pair (a b : Int) : PyData.eqv (.tuple [.int a, .int b]) (.tuple [.int a, .int b]) = true := by
  simp [PyData.eqv, PyData.eqvAll]
structure FinD (p q : Int) (first second : List Int) : Prop where
  hp : 1 ≤ p ∧ p ≤ 20
  hq : 1 ≤ q ∧ q ≤ 20
  l1 : first.length ≤ 10000
  l2 : second.length ≤ 10000
  dv : 0 < (divs p q).length
  cm : 1 ≤ maxI (divs p q) ∧ maxI (divs p q) ≤ 20
  tot : 1 ≤ (p + q).fdiv (maxI (divs p q)) ∧ (p + q).fdiv (maxI (divs p q)) ≤ 1000
  e1 : (sbF first (0, 1, 1, 0)).1 + (sbF first (0, 1, 1, 0)).2.2.1 = p.fdiv (maxI (divs p q))
  e2 : (sbF first (0, 1, 1, 0)).2.1 + (sbF first (0, 1, 1, 0)).2.2.2 = q.fdiv (maxI (divs p q))
  e3 : (cwF second (1, 1)).1 + (cwF second (1, 1)).2 = (p + q).fdiv (maxI (divs p q))
  e4 : 0 < (cwF second (1, 1)).2
  e5 : (cwF second (1, 1)).2 < (p + q).fdiv (maxI (divs p q))
  e6 : ((cwF second (1, 1)).2 * q.fdiv (maxI (divs p q))).fmod ((p + q).fdiv (maxI (divs p q))) = 1
section
variable {w : World} {hB : Heap} {mg mb : Str → Option Value}
theorem seg_d {Γ : Cx} {fpg fan flx frd fsy fst : Addr} {p q : Int} {first second : List Int} {QF : MF → St → Prop} {sc cells k x page spelled symbols lexer words end_ lines word nothing : MV} {os : List (Option MO)} (T : TopF hB mg mb) (hΓ : Γof (fScope bLaw) Γ hB 9 (glLaw fpg fan flx frd fsy fst)) (hst : IsFn hB fst "_law_steps" bSteps)
    (D : FinD p q first second) (hos : ∀ σ : St, σ.objs = os → QF (.ret (.bool true)) σ) :
    WPs pr w Γ ⟨locL sc cells k x (.int p) (.int q) page spelled symbols lexer words (.list (first.map .int)) end_ lines word (.list (second.map .int)) nothing .undef .undef .undef .undef .undef .undef .undef .undef .undef .undef .undef, os⟩ ((fBody bLaw).drop 16) QF := by
  obtain ⟨hp, hq, l1, l2, dv, cm, tot, e1, e2, e3, e4, e5, e6⟩ := D
  have hgl : Γ.glob = glLaw fpg fan flx frd fsy fst := hΓ.2.2.1
  show WPs pr w Γ _ [_, _, _, _, _, _, _] _
  refine ws_cons ?_
  refine' wx_assign_tup ?_ ?hs ?hw
  case hs => intro _; rfl
  case hw => exact swapped_of hΓ.1 rfl
  refine wp_tuple ?_
  tm_at "x"
  refine wx_for ?_ (fun _ _ => rfl)
  tm_at "x"
  refine wc_pure hΓ (pf_steps T hst l1) hst (by decide) (fun y hy => by simp at hy; subst hy; exact ints_cl _) fun v hv => ?_
  subst hv
  refine ⟨_, Itr.list _ _ _, sb_loop hΓ.1 rfl first 0 1 1 0 .undef .undef fun z1 z2 => ?_⟩
  tm_at "x"
  refine' wx_assign_tup ?_ ?hs ?hw
  case hs => intro _; rfl
  case hw => exact swapped_of hΓ.1 rfl
  tm_at "x"
  refine wx_for ?_ (fun _ _ => rfl)
  tm_at "x"
  refine wc_pure hΓ (pf_steps T hst l2) hst (by decide) (fun y hy => by simp at hy; subst hy; exact ints_cl _) fun v hv => ?_
  subst hv
  refine ⟨_, Itr.list _ _ _, cw_loop rfl second 1 1 z1 z2 fun z3 z4 => ?_⟩
  generalize hS : sbF first (0, 1, 1, 0) = S at *
  obtain ⟨a, b, c, d⟩ := S
  generalize hW : cwF second (1, 1) = W at *
  obtain ⟨m, n⟩ := W
  dsimp only at e1 e2 e3 e4 e5 e6 ⊢
  refine then_next (ws_cons ?_)
  refine' wx_assign ?_ ?hs
  case hs => intro _; rfl
  tm_at "x"
  refine wp_compD hΓ ["k"] [("p", .int p), ("q", .int q)] [] ["p", "q"] rfl ⟨rfl, by decide +kernel, by decide +kernel, by decide +kernel, by decide +kernel, by decide +kernel, by decide +kernel⟩ (fun _ _ h => nomatch h) (show ∀ x ∈ (["p", "q"] : List Str), x ∈ (["script", "cells", "k", "x", "p", "q", "page", "spelled", "symbols", "lexer", "words", "first", "end", "lines", "word", "second", "nothing", "a", "b", "c", "d", "less", "more", "m", "n", "common", "low", "total"] : List Str) ∧ (fScope bLaw).names.lookup x = some .cell from by decide +kernel) ?_ (fun _ _ => rfl)
  tm_at "x"
  refine wc_range2 ?_
  obtain ⟨ro1, ro2⟩ := rng_ok (a := 1) (b := p + 1) (by decide) (by decide) (by omega) (by omega)
  refine ⟨_, Itr.rng _ _ 1 (p + 1) ro1 ro2, ?_, ?_, ?_⟩
  · have : (intsOf 1 (p + 1)).length ≤ 20 := by unfold intsOf; simp; omega
    exact Nat.le_trans this (by decide)
  · intro y hy
    simp only [List.mem_cons, List.not_mem_nil, or_false] at hy
    rcases hy with rfl | rfl
    · exact ⟨by simp, rfl, .int⟩
    · exact ⟨by simp, rfl, .int⟩
  refine comp_map (divT p q) (fun y => y) _ _ _ ?_ ?_ ?_
  · intro y hy _
    unfold intsOf at hy
    obtain ⟨i, _, rfl⟩ := List.mem_map.mp hy
    exact .int
  · intro y hy Γ' hΓ''
    unfold intsOf at hy
    obtain ⟨i, _, rfl⟩ := List.mem_map.mp hy
    have hgl'' : Γ'.glob = ([("p", .int p), ("q", .int q)] : List (Str × MV)) := hΓ''.2.2.1
    have hne : (1 : Int) + (i : Int) ≠ 0 := by omega
    refine wa_name (.here .undef []) (wi_one (wt_and2 (p.fmod (1 + (i : Int)) == 0) (q.fmod (1 + (i : Int)) == 0) ?_ ?_))
    · tm_at "x"
      refine w2_mod hne ?_
      tm_at "x"
      refine ⟨rfl, rfl, fun _ => ?_⟩
      tm_at "x"
      refine w2_mod hne ?_
      tm_at "x"
      exact ⟨rfl, rfl⟩
    · refine ⟨rfl, rfl, fun _ => ?_⟩
      tm_at "x"
      exact ⟨rfl, rfl⟩
  rw [divs_eq]
  tm_at "x"
  refine wc_max dv ?_
  generalize maxI (divs p q) = g at *
  have g0 : g ≠ 0 := by omega
  refine putq_there (putq_there (putq_there (putq_there (putq_there (putq_there (putq_there (putq_there (putq_there (putq_there (putq_there (putq_there (putq_there (putq_there (putq_there (putq_there (putq_there (putq_there (putq_there (putq_there (putq_there (putq_there (putq_there (putq_there (putq_there (putq_here (then_next (ws_cons ?_)))))))))))))))))))))))))))
  refine' wx_swap2 "low" "total" ?_ ?hs ?hw
  case hs => intro _; rfl
  case hw => exact swapped_of hΓ.1 rfl
  tm_at "x"
  refine w2_div g0 (by omega) ?_
  tm_at "x"
  refine w2_div g0 (by omega) ?_
  tm_at "x"
  refine wp_and ?_
  tm_at "x"
  refine w2_div g0 (by omega) ?_
  tm_at "x"
  refine w2_eqD (isd_pair _ _) (isd_pair _ _) rfl rfl (by show 1 ≤ 10; decide) ?_
  rw [e1, e2, eqv_pair]
  refine ⟨true, rfl, fun _ => wp_and ?_, fun h => by cases h⟩
  tm_at "x"
  rw [e3]
  refine ⟨_, rfl, fun _ => wp_and ?_, fun h => by simp at h⟩
  refine wp_chain ?_ rfl
  tm_at "x"
  refine ⟨_, rfl, rfl, ⟨_, rfl, fun _ => ?_⟩, fun h => by simp [e4] at h⟩
  tm_at "x"
  refine ⟨_, rfl, fun _ => wp_and1 ?_, fun h => by simp [e5] at h⟩
  tm_at "x"
  refine w2_mul (.of_left (intBits_le_64 (by omega) (by omega))) ?_
  tm_at "x"
  refine w2_mod (by omega) ?_
  tm_at "x"
  rw [e6]
  exact hos _ rfl
end



theorem IsD.mapB (ns : List Bool) : IsD (.list (ns.map .bool)) (.list (ns.map .bool)) := .list _ _ (by simp) fun i x d a b => by
  rw [List.getElem?_map] at a b
  cases h : ns[i]? with
  | none => rw [h] at a; cases a
  | some n => rw [h] at a b; cases a; cases b; exact .bool n
theorem lay_boolsA : ∀ ns : List Bool, PyData.canLayAll0 (ns.map .bool) = true
  | [] => rfl
  | n :: ns => by
    show (PyData.canLay0 (.bool n) && PyData.canLayAll0 (ns.map .bool)) = true
    rw [lay_boolsA ns]; rfl
theorem lay_bools (ns : List Bool) : PyData.canLay0 (.list (ns.map .bool)) = true := lay_boolsA ns
theorem depth_boolsA : ∀ ns : List Bool, PyData.depthAll (ns.map .bool) ≤ 1
  | [] => by decide
  | n :: ns => by
    have := depth_boolsA ns
    simp only [List.map_cons, PyData.depthAll, PyData.depth]
    omega
theorem depth_bools (ns : List Bool) : PyData.depth (.list (ns.map .bool)) ≤ 2 := by
  have := depth_boolsA ns
  simp only [PyData.depth]; omega
noncomputable abbrev glN (fn fe ft : Addr) : List (Str × MV) := [("ISNONTERMINAL", .obj (.ref fn)), ("ISEOF", .obj (.ref fe)), ("ISTERMINAL", .obj (.ref ft)), ("len", .obj (.builtin "len"))]
noncomputable def nlCount (pg : Str) : Int := (Builtin.Str.occurrences pg nlS 0 pg.length (pg.length + 1)).length
structure FinC (pg : Str) (L : Int) (first second : List Int) (sp sy : Int) : Prop where
  l1 : first.length ≤ 10000
  l2 : second.length ≤ 10000
  line : L = 1 + nlCount pg
  ter : ∀ s ∈ first, decide (256 ≤ s) = false
  sy1 : (first.length : Int) = sy
  sy2 : (second.length : Int) = sy
  sp1 : ((first.filter fun s => decide (253 < s)).length : Int) = sp
  sp2 : ((second.filter fun s => decide (253 < s)).length : Int) = sp
noncomputable def gtT (k : Int) : MV → Bool := fun v => match v with | .int s => decide (k < s) | _ => false
theorem filt_gt (k : Int) (l : List Int) : (l.map MV.int).filter (gtT k) = (l.filter fun s => decide (k < s)).map MV.int := by
  induction l with
  | nil => rfl
  | cons c l ih =>
    rw [List.map_cons, List.filter_cons, List.filter_cons]
    by_cases h : decide (k < c) = true
    · rw [if_pos (show gtT k (.int c) = true from h), if_pos h, ih]; rfl
    · rw [if_neg (show ¬ gtT k (.int c) = true from h), if_neg h, ih]
theorem rep2 (a : MV) : (List.replicate (2 : Int).toNat [a]).flatten = [a, a] := rfl
theorem repF (k : Nat) : (List.replicate ((k : Int)).toNat [MV.bool false]).flatten = (List.replicate k false).map MV.bool := by
  rw [Int.toNat_natCast]
  induction k with
  | zero => rfl
  | succ k ih => rw [List.replicate_succ, List.flatten_cons, ih]; rfl
theorem nonF {l : List Int} (h : ∀ s ∈ l, decide (256 ≤ s) = false) : l.map (fun s => decide (256 ≤ s)) = List.replicate l.length false := by
  induction l with
  | nil => rfl
  | cons a l ih => rw [List.map_cons, h a (.head _), ih fun s hs => h s (.tail _ hs)]; rfl
section
variable {w : World} {hB : Heap} {mg mb : Str → Option Value}
theorem seg_c {Γ : Cx} {fpg fan flx frd fsy fst fn fe ft : Addr} {p q L sp sy : Int} {pg : Str} {first second : List Int} {QF : MF → St → Prop} {sc cells k x lexer words word : MV} {os : List (Option MO)} (T : TopF hB mg mb) (hΓ : Γof (fScope bLaw) Γ hB 9 (glLaw fpg fan flx frd fsy fst)) (hst : IsFn hB fst "_law_steps" bSteps)
    (hfn : IsFn hB fn "ISNONTERMINAL" bNon) (hgN : ∀ p ∈ glNT, GlobAt w hB mg mb (fScope bNon) p) (hfe : IsFn hB fe "ISEOF" bEof) (hgE : ∀ p ∈ glEM, GlobAt w hB mg mb (fScope bEof) p) (hft : IsFn hB ft "ISTERMINAL" bTer) (hgT : ∀ p ∈ glNT, GlobAt w hB mg mb (fScope bTer) p)
    (hgV : ∀ p ∈ glN fn fe ft, GlobV w hB mg mb p) (D : FinD p q first second) (E : FinC pg L first second sp sy) (hos : ∀ σ : St, σ.objs = os → QF (.ret (.bool true)) σ) :
    WPs pr w Γ ⟨locL sc cells k x (.int p) (.int q) (.str pg) (.int sp) (.int sy) lexer words (.list (first.map .int)) (.list [.int 256]) (.list [.int L, .int L]) word (.list (second.map .int)) (.list [.int 0]) .undef .undef .undef .undef .undef .undef .undef .undef .undef .undef .undef, os⟩ ((fBody bLaw).drop 12) QF := by
  obtain ⟨l1, l2, hline, hter, sy1, sy2, sp1, sp2⟩ := E
  have hgl : Γ.glob = glLaw fpg fan flx frd fsy fst := hΓ.2.2.1
  have gV : ∀ (sc : Scope) (x : Str) (mv : MV), (x, mv) ∈ glN fn fe ft → sc.names.lookup x = some .globalImplicit → GlobAt w hB mg mb sc (x, mv) := fun sc x mv hx hl => (hgV _ hx).at hl
  show WPs pr w Γ _ (_ :: _ :: _ :: _ :: (fBody bLaw).drop 16) _
  refine ws_cons (wx_if (wt_bool (wall_or_cons ?_)))
  tm_at "x"
  refine wm_str PySem.F.slot_str_count PySem.F.type_str_count ?_
  tm_at "x"
  refine wc_count ?_
  tm_at "x"
  refine w2_mulL (by decide) (by decide) (show 1 * 2 ≤ 16777216 by decide) ?_
  rw [rep2]
  refine w2_neD (IsD.mapI [L, L]) (IsD.mapI [1 + nlCount pg, 1 + nlCount pg]) (lay_ints _) (lay_ints _) (Nat.le_trans (depth_ints _) (by decide)) ?_
  rw [hline, PySem.SeqAt.eqv_refl _ (lay_ints _)]
  refine wb_bool ⟨fun h => (by cases h), fun _ => wall_or_cons ?_⟩
  tm_at "x"
  refine w2_neD (IsD.mapI [256]) (IsD.mapI [256]) (lay_ints _) (lay_ints _) (Nat.le_trans (depth_ints _) (by decide)) ?_
  rw [PySem.SeqAt.eqv_refl _ (lay_ints _)]
  refine wb_bool ⟨fun h => (by cases h), fun _ => wall_or_cons ?_⟩
  refine' wt_compare ?_ ?hm
  case hm => exact rfl
  refine wp_compD hΓ ["s"] [] [("ISNONTERMINAL", .obj (.ref fn))] [] rfl ⟨rfl, by decide +kernel, by decide +kernel, by decide +kernel, by decide +kernel, by decide +kernel, by decide +kernel⟩ (GlobOk.of T rfl fun p hp => by
    simp only [List.mem_cons, List.not_mem_nil, or_false] at hp
    subst hp
    exact gV _ _ _ (.head _) (by decide +kernel)) (fun x h => nomatch h) ?_ (fun _ _ => rfl)
  tm_at "x"
  refine w2_addL (by rw [List.length_map]; show _ + 1 ≤ 16777216; omega) ?_
  tm_at "x"
  refine w2_addL (by rw [List.length_append, List.length_map]; show _ + 1 + 1 ≤ 16777216; omega) ?_
  rw [show List.map MV.int first ++ [MV.int 256] ++ [MV.int 0] = (first ++ [256, 0]).map MV.int by simp]
  refine ⟨_, Itr.list _ _ _, by rw [List.length_map, List.length_append]; show _ + 2 ≤ 16777216; omega, (fun p hp => by cases hp), ?_⟩
  refine comp_map (fun _ => true) (fun y => match y with | .int s => .bool (decide (256 ≤ s)) | z => z) _ _ _ ?_ ?_ ?_
  · intro y hy _
    obtain ⟨c, _, rfl⟩ := List.mem_map.mp hy
    exact .bool
  · intro y hy Γ' hΓ''
    obtain ⟨c, _, rfl⟩ := List.mem_map.mp hy
    have hgl'' : Γ'.glob = ([("ISNONTERMINAL", .obj (.ref fn))] : List (Str × MV)) := hΓ''.2.2.1
    refine wa_name (.here .undef []) (wi_nil ⟨rfl, rfl, fun _ => ?_⟩)
    tm_at "x"
    refine wc_pure hΓ'' (pf_non T hfn hgN) hfn (by decide) (fun y hy => by simp at hy; subst hy; exact .int) fun v hv => ?_
    subst hv
    exact ⟨rfl, rfl⟩
  rw [show [] ++ ((List.map MV.int (first ++ [256, 0])).filter (fun _ => true)).map (fun y => match y with | .int s => .bool (decide (256 ≤ s)) | z => z) = (List.replicate first.length false ++ [true, false]).map MV.bool from by
    rw [List.filter_eq_self.mpr fun _ _ => rfl, List.map_map, List.nil_append, ← nonF hter]
    simp [List.map_append, Function.comp_def]]
  tm_at "x"
  refine wc_lenL (by rw [List.length_map]; show _ ≤ 16777216; omega) ?_
  tm_at "x"
  refine w2_mulL (by rw [List.length_map]; omega) (by rw [List.length_map]; omega) (by simp; omega) ?_
  rw [List.length_map, repF]
  tm_at "x"
  refine w2_addL (by rw [List.length_map, List.length_replicate]; show _ + 2 ≤ 16777216; omega) ?_
  rw [show (List.replicate first.length false).map MV.bool ++ [MV.bool true, MV.bool false] = (List.replicate first.length false ++ [true, false]).map MV.bool by simp]
  refine w2_neD (IsD.mapB _) (IsD.mapB _) (lay_bools _) (lay_bools _) (Nat.le_trans (depth_bools _) (by decide)) ?_
  rw [PySem.SeqAt.eqv_refl _ (lay_bools _)]
  refine wb_bool ⟨fun h => (by cases h), fun _ => wall_or_nil ⟨fun h => (by cases h), fun _ => ws_nil (then_next (ws_cons (wx_if ?_)))⟩⟩
  refine' wt_compare ?_ ?hm
  case hm => exact rfl
  refine wp_compD hΓ ["s"] [] [("ISEOF", .obj (.ref fe)), ("ISTERMINAL", .obj (.ref ft))] [] rfl ⟨rfl, by decide +kernel, by decide +kernel, by decide +kernel, by decide +kernel, by decide +kernel, by decide +kernel⟩ (GlobOk.of T rfl fun p hp => by
    simp only [List.mem_cons, List.not_mem_nil, or_false] at hp
    rcases hp with rfl | rfl
    · exact gV _ _ _ (.tail _ (.head _)) (by decide +kernel)
    · exact gV _ _ _ (.tail _ (.tail _ (.head _))) (by decide +kernel)) (fun x h => nomatch h) ?_ (fun _ _ => rfl)
  tm_at "x"
  refine ⟨_, Itr.list _ _ _, (by decide), (fun p hp => by cases hp), ?_⟩
  refine comp_map (fun _ => true) (fun y => match y with | .int s => .tup [.bool (s == 0), .bool (decide (s < 256))] | z => z) _ _ _ ?_ ?_ ?_
  · intro y hy _
    simp only [List.mem_cons, List.not_mem_nil, or_false] at hy
    subst hy
    exact Closed.tup fun y hy => by simp only [List.mem_cons, List.not_mem_nil, or_false] at hy; rcases hy with rfl | rfl <;> exact .bool
  · intro y hy Γ' hΓ''
    simp only [List.mem_cons, List.not_mem_nil, or_false] at hy
    subst hy
    have hgl'' : Γ'.glob = ([("ISEOF", .obj (.ref fe)), ("ISTERMINAL", .obj (.ref ft))] : List (Str × MV)) := hΓ''.2.2.1
    refine wa_name (.here .undef []) (wi_nil ⟨rfl, rfl, fun _ => ?_⟩)
    tm_at "x"
    refine wc_pure hΓ'' (pf_eof T hfe hgE) hfe (by decide) (fun y hy => by simp at hy; subst hy; exact .int) fun v hv => ?_
    subst hv
    tm_at "x"
    refine wc_pure hΓ'' (pf_ter T hft hgT) hft (by decide) (fun y hy => by simp at hy; subst hy; exact .int) fun v hv => ?_
    subst hv
    tm_at "x"
    exact ⟨rfl, rfl⟩
  rw [show [] ++ ((([MV.int 0]).filter (fun _ => true)).map (fun y => match y with | .int s => .tup [.bool (s == 0), .bool (decide (s < 256))] | z => z)) = [MV.tup [.bool true, .bool true]] from rfl]
  tm_at "x"
  have isd1 : IsD (.list [.tup [.bool true, .bool true]]) (.list [.tuple [.bool true, .bool true]]) := .list _ _ rfl fun i x d h1 h2 => by
    match i, h1, h2 with
    | 0, h1, h2 =>
      cases h1; cases h2
      exact .tup _ _ rfl fun i x d h1 h2 => by
        match i, h1, h2 with
        | 0, h1, h2 => cases h1; cases h2; exact .bool true
        | 1, h1, h2 => cases h1; cases h2; exact .bool true
  refine w2_neD isd1 isd1 rfl rfl (by decide) ?_
  rw [PySem.SeqAt.eqv_refl _ rfl]
  refine wb_bool ⟨fun h => (by cases h), fun _ => ws_nil (then_next (ws_cons (wx_if ?_)))⟩
  refine' wt_compare ?_ ?hm
  case hm => exact rfl
  refine wp_compD hΓ ["row"] [] [("len", .obj (.builtin "len"))] [] rfl ⟨rfl, by decide +kernel, by decide +kernel, by decide +kernel, by decide +kernel, by decide +kernel, by decide +kernel⟩ (GlobOk.of T rfl fun p hp => by
    simp only [List.mem_cons, List.not_mem_nil, or_false] at hp
    subst hp
    exact gV _ _ _ (.tail _ (.tail _ (.tail _ (.head _)))) (by decide +kernel)) (fun x h => nomatch h) ?_ (fun _ _ => rfl)
  tm_at "x"
  refine ⟨_, Itr.tup _ _ _, (show 2 ≤ sizeLine by decide), (fun p hp => by cases hp), ?_⟩
  refine comp_map (fun _ => true) (fun y => match y with | .list l => .int l.length | z => z) _ _ _ ?_ ?_ ?_
  · intro y hy _
    simp only [List.mem_cons, List.not_mem_nil, or_false] at hy
    rcases hy with rfl | rfl <;> exact .int
  · intro y hy Γ' hΓ''
    obtain ⟨l, rfl, hl⟩ : ∃ l : List MV, y = .list l ∧ l.length ≤ 10000 := by
      simp only [List.mem_cons, List.not_mem_nil, or_false] at hy
      rcases hy with rfl | rfl
      · exact ⟨_, rfl, by rw [List.length_map]; exact l1⟩
      · exact ⟨_, rfl, by rw [List.length_map]; exact l2⟩
    have hgl'' : Γ'.glob = ([("len", .obj (.builtin "len"))] : List (Str × MV)) := hΓ''.2.2.1
    refine wa_name (.here .undef []) (wi_nil ⟨rfl, rfl, fun _ => ?_⟩)
    tm_at "x"
    refine wc_lenL (Nat.le_trans hl (by decide)) ?_
    exact ⟨rfl, rfl⟩
  rw [show [] ++ ((([MV.list (first.map .int), MV.list (second.map .int)]).filter (fun _ => true)).map (fun y => match y with | .list l => MV.int l.length | z => z)) = ([sy, sy].map MV.int : List MV) from by
    show [MV.int ((first.map MV.int).length), MV.int ((second.map MV.int).length)] = _
    rw [List.length_map, List.length_map, sy1, sy2]; rfl]
  tm_at "x"
  refine w2_mulL (by decide) (by decide) (show 1 * 2 ≤ 16777216 by decide) ?_
  rw [rep2]
  refine w2_neD (IsD.mapI [sy, sy]) (IsD.mapI [sy, sy]) (lay_ints _) (lay_ints _) (Nat.le_trans (depth_ints _) (by decide)) ?_
  rw [PySem.SeqAt.eqv_refl _ (lay_ints _)]
  refine wb_bool ⟨fun h => (by cases h), fun _ => ws_nil (then_next (ws_cons (wx_if ?_)))⟩
  refine' wt_compare ?_ ?hm
  case hm => exact rfl
  refine wp_compD hΓ ["row"] [] [("len", .obj (.builtin "len"))] [] rfl ⟨rfl, by decide +kernel, by decide +kernel, by decide +kernel, by decide +kernel, by decide +kernel, by decide +kernel⟩ (GlobOk.of T rfl fun p hp => by
    simp only [List.mem_cons, List.not_mem_nil, or_false] at hp
    subst hp
    exact gV _ _ _ (.tail _ (.tail _ (.tail _ (.head _)))) (by decide +kernel)) (fun x h => nomatch h) ?_ (fun _ _ => rfl)
  tm_at "x"
  refine ⟨_, Itr.tup _ _ _, (show 2 ≤ sizeLine by decide), (fun p hp => by cases hp), ?_⟩
  refine comp_map (fun _ => true) (fun y => match y with | .list l => .int (l.filter (gtT 253)).length | z => z) _ _ _ ?_ ?_ ?_
  · intro y hy _
    simp only [List.mem_cons, List.not_mem_nil, or_false] at hy
    rcases hy with rfl | rfl <;> exact .int
  · intro y hy Γ' hΓ''
    obtain ⟨l, rfl, hl⟩ : ∃ l : List Int, y = .list (l.map .int) ∧ l.length ≤ 10000 := by
      simp only [List.mem_cons, List.not_mem_nil, or_false] at hy
      rcases hy with rfl | rfl
      · exact ⟨_, rfl, l1⟩
      · exact ⟨_, rfl, l2⟩
    have hgl'' : Γ'.glob = ([("len", .obj (.builtin "len"))] : List (Str × MV)) := hΓ''.2.2.1
    refine wa_name (.here .undef []) (wi_nil ⟨rfl, rfl, fun _ => ?_⟩)
    tm_at "x"
    refine wp_compD hΓ'' ["s"] [] [] [] rfl ⟨rfl, by decide +kernel, by decide +kernel, by decide +kernel, by decide +kernel, by decide +kernel, by decide +kernel⟩ (fun _ _ h => nomatch h) (fun x h => nomatch h) ?_ (fun _ _ => rfl)
    tm_at "x"
    refine ⟨_, Itr.list _ _ _, by rw [List.length_map]; exact Nat.le_trans hl (by decide), (fun p hp => by cases hp), ?_⟩
    refine comp_map (gtT 253) (fun y => y) _ _ _ ?_ ?_ ?_
    · intro y hy _
      obtain ⟨c, _, rfl⟩ := List.mem_map.mp hy
      exact .int
    · intro y hy Γ₃ hΓ₃
      obtain ⟨c, _, rfl⟩ := List.mem_map.mp hy
      refine wa_name (.here .undef []) (wi_one ?_)
      tm_at "x"
      refine ⟨rfl, rfl, fun _ => ?_⟩
      tm_at "x"
      exact ⟨rfl, rfl⟩
    rw [List.map_id', List.nil_append]
    tm_at "x"
    refine wc_lenL (by rw [filt_gt, List.length_map]; exact Nat.le_trans (List.length_filter_le _ _) (Nat.le_trans hl (by decide))) ?_
    exact ⟨rfl, rfl⟩
  rw [show [] ++ ((([MV.list (first.map .int), MV.list (second.map .int)]).filter (fun _ => true)).map (fun y => match y with | .list l => .int (l.filter (gtT 253)).length | z => z)) = ([sp, sp].map MV.int : List MV) from by
    show [MV.int _, MV.int _] = _
    rw [filt_gt, filt_gt, List.length_map, List.length_map, sp1, sp2]; rfl]
  tm_at "x"
  refine w2_mulL (by decide) (by decide) (show 1 * 2 ≤ 16777216 by decide) ?_
  rw [rep2]
  refine w2_neD (IsD.mapI [sp, sp]) (IsD.mapI [sp, sp]) (lay_ints _) (lay_ints _) (Nat.le_trans (depth_ints _) (by decide)) ?_
  rw [PySem.SeqAt.eqv_refl _ (lay_ints _)]
  refine wb_bool ⟨fun h => (by cases h), fun _ => ws_nil (then_next ?_)⟩
  exact seg_d T hΓ hst D hos
end



noncomputable def symW (x : Str) : List Int := (symS x).getD []
structure FinB (words : List Str) : Prop where
  n : words.length ≤ 100
  ok : ∀ x ∈ words, x.length ≤ 1000 ∧ symS x = some (symW x) ∧ (symW x).length ≤ 2000
section
variable {w : World} {hB : Heap} {mg mb : Str → Option Value} {C N fi fr fg fq : Addr} {mN : Str → Option Value} {X : LX} {P0 : Addr} {ps' : Array Value}
theorem push_loop {Γ : Cx} {fpg fan flx frd fsy fst : Addr} {QF : MF → St → Prop} {body : List Stmt} {cl : List MV} {line : Int} {xs : List Str} {l4 : List MV} {sc cells k x p q page spelled symbols words first end_ lines second nothing a b c d less more m n common low total : MV} (T : TopF hB mg mb) (L : LexCls hB C N fi fr fg fq mN) (hΓ : Γof (fScope bLaw) Γ hB 9 (glLaw fpg fan flx frd fsy fst)) (hfq : IsFnC hB fq "_netrclex.push_token" bPush) (hb : body = forBody (fBody bLaw)[7]?) {tp : Pos} :
    ∀ (ws done : List Str) (z : MV), done.length + ws.length ≤ 100 → (∀ z, QF .next ⟨locL sc cells k x p q page spelled symbols (.obj (.ref X.x)) words first end_ lines z second nothing a b c d less more m n common low total, [some (.ext (tabE P0 ps')), some (.lst cl), none, some (.ext (lexE C X line (done ++ ws) xs)), some (.lst l4)]⟩) →
      WPf pr w Γ (.Name "word" tp) body QF (ws.map .str) ⟨locL sc cells k x p q page spelled symbols (.obj (.ref X.x)) words first end_ lines z second nothing a b c d less more m n common low total, [some (.ext (tabE P0 ps')), some (.lst cl), none, some (.ext (lexE C X line done xs)), some (.lst l4)]⟩ := by
  subst hb
  intro ws
  induction ws with
  | nil => intro done z _ h; rw [List.append_nil] at h; exact h z
  | cons y ws ih =>
    intro done z hn h
    simp only [List.length_cons] at hn
    show WU1 pr w Γ _ (.str y) (assign (.Name "word" tp) Γ.env) _
    refine wa_name (.there _ (.there _ (.there _ (.there _ (.there _ (.there _ (.there _ (.there _ (.there _ (.there _ (.there _ (.there _ (.there _ (.there _ (.here _ _))))))))))))))) ?_
    show WPs pr w Γ ⟨locL sc cells k x p q page spelled symbols (.obj (.ref X.x)) words first end_ lines (.str y) second nothing a b c d less more m n common low total, [some (.ext (tabE P0 ps')), some (.lst cl), none, some (.ext (lexE C X line done xs)), some (.lst l4)]⟩ [_] _
    refine ws_cons ?_
    refine' wx_expr ?_ ?hs
    case hs => intro _; rfl
    refine' wp_method ?_ ?he ?hc
    case he => intro _ _; rfl
    case hc => intro _; rfl
    tm_at "x"
    refine wm_meth L hΓ.2.1 (k := 3) (show ObjAt _ 3 _ from rfl) L.mq hfq (by decide) (obj_lookup _ (by decide)) ?_
    tm_at "x"
    refine wc_ext hΓ (xf_push T L hfq (by omega)) hfq.fn (by decide) (fun y hy => by simp at hy; rcases hy with rfl | rfl; exact .obj; exact .str) (k := 3) (show ObjAt _ 3 _ from rfl) fun mv e' hP => ?_
    obtain ⟨rfl, rfl⟩ := hP
    tm_at "x"
    exact ih (done ++ [y]) (.str y) (by simp; omega) (by rw [List.append_assoc]; exact h)
theorem get_loop {Γ : Cx} {fpg fan flx frd fsy fst : Addr} {QF : MF → St → Prop} {body : List Stmt} {cl : List MV} {line : Int} {xs : List Str} {l4 : List MV} {sc cells k x p q page spelled symbols words first end_ lines nothing a b c d less more m n common low total : MV} (T : TopF hB mg mb) (L : LexCls hB C N fi fr fg fq mN) (hΓ : Γof (fScope bLaw) Γ hB 9 (glLaw fpg fan flx frd fsy fst)) (hfr : IsFnC hB fr "_netrclex._read_char" bRead) (hfg : IsFnC hB fg "_netrclex.get_token" bGet) (hgG : ∀ p ∈ glG, GlobAt w hB mg mb (fScope bGet) p)
    (hfs : IsFn hB fsy "_law_symbols" bSymbols) (hgS : ∀ p ∈ glS, GlobAt w hB mg mb (fScope bSymbols) p) (hz : xs.length ≤ 90000) (hs : ∀ x ∈ xs, sgl x) (hb : body = forBody (fBody bLaw)[9]?) {tp : Pos} :
    ∀ (ws : List Str) (acc : List Int) (z : MV), FinB ws → acc.length + 2000 * ws.length ≤ 1000000 → (∀ z, QF .next ⟨locL sc cells k x p q page spelled symbols (.obj (.ref X.x)) words first end_ lines z (.mu 5) nothing a b c d less more m n common low total, [some (.ext (tabE P0 ps')), some (.lst cl), none, some (.ext (lexE C X line [] xs)), some (.lst l4), some (.lst ((acc ++ ws.flatMap symW).map .int))]⟩) →
      WPf pr w Γ (.Name "word" tp) body QF (ws.map .str) ⟨locL sc cells k x p q page spelled symbols (.obj (.ref X.x)) words first end_ lines z (.mu 5) nothing a b c d less more m n common low total, [some (.ext (tabE P0 ps')), some (.lst cl), none, some (.ext (lexE C X line ws xs)), some (.lst l4), some (.lst (acc.map .int))]⟩ := by
  subst hb
  have hgl : Γ.glob = glLaw fpg fan flx frd fsy fst := hΓ.2.2.1
  intro ws
  induction ws with
  | nil => intro acc z _ _ h; rw [List.flatMap_nil, List.append_nil] at h; exact h z
  | cons y ws ih =>
    intro acc z hB' hn h
    obtain ⟨o1, o2, o3⟩ := hB'.ok y (.head _)
    have hBt : FinB ws := ⟨Nat.le_trans (Nat.le_succ _) hB'.n, fun x hx => hB'.ok x (.tail _ hx)⟩
    simp only [List.length_cons] at hn
    show WU1 pr w Γ _ (.str y) (assign (.Name "word" tp) Γ.env) _
    refine wa_name (.there _ (.there _ (.there _ (.there _ (.there _ (.there _ (.there _ (.there _ (.there _ (.there _ (.there _ (.there _ (.there _ (.there _ (.here _ _))))))))))))))) ?_
    show WPs pr w Γ ⟨locL sc cells k x p q page spelled symbols (.obj (.ref X.x)) words first end_ lines (.str y) (.mu 5) nothing a b c d less more m n common low total, [some (.ext (tabE P0 ps')), some (.lst cl), none, some (.ext (lexE C X line (y :: ws) xs)), some (.lst l4), some (.lst (acc.map .int))]⟩ [_] _
    refine ws_cons ?_
    refine' wx_expr ?_ ?hs
    case hs => intro _; rfl
    refine' wp_method ?_ ?he ?hc
    case he => intro _ _; rfl
    case hc => intro _; rfl
    tm_at "x"
    refine wm_mu (xs := acc.map .int) rfl PySem.F.slot_list_extend PySem.F.type_list_extend ?_
    tm_at "x"
    refine wm_meth L hΓ.2.1 (k := 3) (show ObjAt _ 3 _ from rfl) L.mg hfg (by decide) (obj_lookup _ (by decide)) (wl_nil ?_)
    refine wc_ext hΓ (xf_get (push := y :: ws) T L hfr hfg hgG (by have := hB'.n; omega) hz hs) hfg.fn (by decide) (fun y hy => by simp at hy; subst hy; exact .obj) (k := 3) (show ObjAt _ 3 _ from rfl) fun mv e' hP => ?_
    obtain ⟨rfl, rfl⟩ := hP
    tm_at "x"
    refine wc_pure hΓ (pf_symbols T hfs hgS o1 o2) hfs (by decide) (fun y hy => by simp at hy; subst hy; exact .str) fun v hv => ?_
    subst hv
    tm_at "x"
    refine wc_extend (xs := acc.map .int) rfl (by rw [List.length_map, List.length_map]; show _ ≤ 16777216; omega) ?_
    tm_at "x"
    have := ih (acc ++ symW y) (.str y) hBt (by simp; omega) (by rw [List.append_assoc, ← List.flatMap_cons]; exact h)
    rw [List.map_append] at this
    exact this
end



local macro_rules | `(tactic| tm_at "q") => `(tactic| repeat' (with_reducible first | refine wal_cons ?_ | refine wal_nil ?_ | refine putq_here ?_ | refine putq_there ?_))
section
variable {w : World} {hB : Heap} {mg mb : Str → Option Value} {C N fi fr fg fq : Addr} {mN : Str → Option Value} {X : LX} {P0 : Addr} {ps' : Array Value}
/-- all that law calls -/
structure Defs (w : World) (hB : Heap) (mg mb : Str → Option Value) (C N fi fr fg fq : Addr) (mN : Str → Option Value) (fpg fan flx frd fsy fst fn fe ft fw cd0 P0 : Addr) (e : Nat → Addr) : Prop where
  d_T : TopF hB mg mb
  d_L : LexCls hB C N fi fr fg fq mN
  d_fi : IsFnC hB fi "_netrclex.__init__" bInit
  d_fr : IsFnC hB fr "_netrclex._read_char" bRead
  d_fg : IsFnC hB fg "_netrclex.get_token" bGet
  d_fq : IsFnC hB fq "_netrclex.push_token" bPush
  d_gG : ∀ p ∈ glG, GlobAt w hB mg mb (fScope bGet) p
  d_lx : LxFn w hB mg mb C flx cd0 P0
  d_rd : IsFn hB frd "_law_read" bRd
  d_sy : IsFn hB fsy "_law_symbols" bSymbols
  d_st : IsFn hB fst "_law_steps" bSteps
  d_pg : IsFn hB fpg "_law_page" bPage
  d_an : IsFn hB fan "_law_answers" bAnswers
  d_fn : IsFn hB fn "ISNONTERMINAL" bNon
  d_fe : IsFn hB fe "ISEOF" bEof
  d_ft : IsFn hB ft "ISTERMINAL" bTer
  d_fw : IsFn hB fw "_law_written" bWritten
  d_es : EscAt hB e
  d_gS : ∀ p ∈ glS, GlobAt w hB mg mb (fScope bSymbols) p
  d_gN : ∀ p ∈ glNT, GlobAt w hB mg mb (fScope bNon) p
  d_gT : ∀ p ∈ glNT, GlobAt w hB mg mb (fScope bTer) p
  d_gE : ∀ p ∈ glEM, GlobAt w hB mg mb (fScope bEof) p
  d_gV : ∀ p ∈ glN fn fe ft, GlobV w hB mg mb p
  d_gR : ∀ p ∈ glR2 fsy, GlobAt w hB mg mb (fScope bRd) p
  d_gW : ∀ p ∈ glW e, GlobAt w hB mg mb (fScope bWritten) p
  d_gP : ∀ p ∈ glP fw, GlobAt w hB mg mb (fScope bPage) p
  d_gL : ∀ p ∈ glLaw fpg fan flx frd fsy fst, GlobAt w hB mg mb (fScope bLaw) p
structure FinR (page : Str) (chars : List Str) (words : List Str) (first : List Int) (sp sy : Int) (line : Int) (xs line2 : Int × List Str) : Prop where
  z : chars.length ≤ 90000
  s : ∀ x ∈ chars, sgl x
  read : readS 25 1 chars [] [] = some (words, first, [256], xs.1, xs.2)
  z2 : xs.2.length ≤ 90000
  s2 : ∀ x ∈ xs.2, sgl x
  last : lexG xs.1 xs.2 = (xs.1, line2.2, Str.empty)
  nil : symS Str.empty = some [0]
  b : FinB words
  c : FinC page xs.1 first (words.flatMap symW) sp sy
theorem seg_b {Γ : Cx} {fpg fan flx frd fsy fst fn fe ft fw cd0 P0 : Addr} {e : Nat → Addr} {QF : MF → St → Prop} {cl : List MV} {page : Str} {chars words : List Str} {first : List Int} {p q sp sy line : Int} {xs line2 : Int × List Str} {sc cells k x : MV} (D : Defs w hB mg mb C N fi fr fg fq mN fpg fan flx frd fsy fst fn fe ft fw cd0 P0 e) (hΓ : Γof (fScope bLaw) Γ hB 9 (glLaw fpg fan flx frd fsy fst))
    (R : FinR page chars words first sp sy line xs line2) (F : FinD p q first (words.flatMap symW)) (hos : ∀ σ : St, (∃ l, σ.objs = some (.ext (tabE P0 ps')) :: l) → QF (.ret (.bool true)) σ) :
    WPs pr w Γ ⟨locL sc cells k x (.int p) (.int q) (.str page) (.int sp) (.int sy) (.obj (.ref X.x)) .undef .undef .undef .undef .undef .undef .undef .undef .undef .undef .undef .undef .undef .undef .undef .undef .undef .undef, [some (.ext (tabE P0 ps')), some (.lst cl), none, some (.ext (lexE C X 1 [] chars))]⟩ ((fBody bLaw).drop 5) QF := by
  have hgl : Γ.glob = glLaw fpg fan flx frd fsy fst := hΓ.2.2.1
  show WPs pr w Γ _ (_ :: _ :: _ :: _ :: _ :: _ :: _ :: (fBody bLaw).drop 12) _
  refine ws_cons ?_
  refine' wx_assign_tup ?_ ?hs ?hw
  case hs => intro _; rfl
  case hw => exact swapped_of hΓ.1 rfl
  tm_at "x"
  refine wc_ext hΓ (xf_rd D.d_T D.d_L D.d_rd D.d_fr D.d_fg D.d_gG D.d_sy D.d_gS D.d_fe D.d_gE D.d_ft D.d_gT (fun p hp => D.d_gV p (by
    simp only [List.mem_cons, List.not_mem_nil, or_false] at hp ⊢
    rcases hp with h | h
    · exact .inr (.inl h)
    · exact .inr (.inr (.inl h)))) D.d_gR R.z R.s R.read) D.d_rd (by decide) (fun y hy => by simp at hy; subst hy; exact .obj) (k := 3) (show ObjAt _ 3 _ from rfl) fun mv e' hP => ?_
  obtain ⟨rfl, rfl⟩ := hP
  refine ⟨_, rfl, ?_⟩
  tm_at "q"
  refine then_next (ws_cons (wx_new (wl_cons (wp_lexAttr D.d_L hΓ.2.1 (k := 3) (show ObjAt _ 3 _ from rfl) (by tm_at "lk") (mv := .int xs.1) (by tm_at "lk") (wl_nil ⟨(show 1 ≤ sizeLine by decide), ?_⟩)))))
  tm_at "q"
  refine then_next (ws_cons (wx_for ?_ (fun _ _ => rfl)))
  tm_at "x"
  refine ⟨_, Itr.list _ _ _, push_loop D.d_T D.d_L hΓ D.d_fq rfl words [] .undef (by have := R.b.n; show 0 + _ ≤ _; omega) fun z => ?_⟩
  refine then_next (ws_cons (wx_new (wl_nil ⟨Nat.zero_le _, ?_⟩)))
  tm_at "q"
  refine then_next (ws_cons (wx_for ?_ (fun _ _ => rfl)))
  tm_at "x"
  refine ⟨_, Itr.list _ _ _, get_loop D.d_T D.d_L hΓ D.d_fr D.d_fg D.d_gG D.d_sy D.d_gS R.z2 R.s2 rfl words [] z R.b (by have := R.b.n; show 0 + _ ≤ _; omega) fun z2 => ?_⟩
  refine then_next (ws_cons ?_)
  refine' wx_assign ?_ ?hs
  case hs => intro _; rfl
  tm_at "x"
  refine wm_meth D.d_L hΓ.2.1 (k := 3) (show ObjAt _ 3 _ from rfl) D.d_L.mg D.d_fg (by decide) (obj_lookup _ (by decide)) (wl_nil ?_)
  refine wc_ext hΓ (xf_get (push := []) D.d_T D.d_L D.d_fr D.d_fg D.d_gG (by decide) R.z2 R.s2) D.d_fg.fn (by decide) (fun y hy => by simp at hy; subst hy; exact .obj) (k := 3) (show ObjAt _ 3 _ from rfl) fun mv e' hP => ?_
  obtain ⟨rfl, rfl⟩ := hP
  rw [R.last]
  refine wl_nil ?_
  refine wc_pure hΓ (pf_symbols (x := Str.empty) D.d_T D.d_sy D.d_gS (by decide) R.nil) D.d_sy (by decide) (fun y hy => by simp at hy; subst hy; exact .str) fun v hv => ?_
  subst hv
  tm_at "q"
  refine then_next (ws_cons ?_)
  refine' wx_expr ?_ ?hs
  case hs => intro _; rfl
  refine' wp_method ?_ ?he ?hc
  case he => intro _ _; rfl
  case hc => intro _; rfl
  tm_at "x"
  refine wm_mu (k := 4) (xs := [.int xs.1]) rfl PySem.F.slot_list_append PySem.F.type_list_append ?_
  refine' wl_cons ?_ ?he
  case he => intro _; rfl
  refine wp_lexAttr D.d_L hΓ.2.1 (k := 3) (show ObjAt _ 3 _ from rfl) (by tm_at "lk") (mv := .int xs.1) (by tm_at "lk") (wl_nil ?_)
  refine wc_append (k := 4) (xs := [.int xs.1]) rfl (show 1 ≤ sizeLine by decide) ?_
  refine ⟨rfl, then_next ?_⟩
  refine ws_freeze (x := "lines") (k := 4) (xs := [.int xs.1, .int xs.1]) (by tm_at "lk") rfl ?_
  tm_at "q"
  refine ws_freeze (x := "second") (k := 5) (xs := (words.flatMap symW).map .int) (by tm_at "lk") rfl ?_
  tm_at "q"
  exact seg_c D.d_T hΓ D.d_st D.d_fn D.d_gN D.d_fe D.d_gE D.d_ft D.d_gT D.d_gV F R.c fun σ h => hos σ ⟨_, h⟩
end



/-- all that is plain of it -/
structure LawD (p q c : Int) : Prop where
  hp : 1 ≤ p ∧ p ≤ 20
  hq : 1 ≤ q ∧ q ≤ 20
  go : ∃ (A : Str) (ok : Str → Bool) (r : Str × Int × Int) (words : List Str) (first : List Int) (line : Int) (xs line2 : Int × List Str), ansW p q 100 0 1 1 0 Str.empty = some A ∧ A.length ≤ 1000 ∧ (∀ ch, ok ch = true → ∀ h, h < 5 → OkC ch h) ∧ pageL ok 90 A c Str.empty 0 0 = some r ∧ r.1.length ≤ 10000 ∧
    FinR (r.1 ++ "x") (strs1 (r.1 ++ "x")) words first r.2.1 r.2.2 line xs line2 ∧ FinD p q first (words.flatMap symW)
section
variable {w : World} {hB : Heap} {mg mb : Str → Option Value} {C N fi fr fg fq : Addr} {mN : Str → Option Value}
theorem xf_law {fl fpg fan flx frd fsy fst fn fe ft fw cd0 P0 : Addr} {e : Nat → Addr} (D : Defs w hB mg mb C N fi fr fg fq mN fpg fan flx frd fsy fst fn fe ft fw cd0 P0 e) (hf : IsFn hB fl "law" bLaw) {ns : List Int} (hn : ns.length ≤ 10000) (pl : ∀ p q c, 1 ≤ p ∧ p ≤ 20 → 1 ≤ q ∧ q ≤ 20 → LawD p q c) :
    ExtFn pr w 10 hB (.ref fl) [.list (ns.map .int)] (tabE P0 #[]) (fun v e => v = .bool true ∧ ∃ ps', e = tabE P0 ps') := by
  refine ExtFn.of_stmt D.d_T hf ["script"] ["cells", "k", "x", "p", "q", "page", "spelled", "symbols", "lexer", "words", "first", "end", "lines", "word", "second", "nothing", "a", "b", "c", "d", "less", "more", "m", "n", "common", "low", "total"] (glLaw fpg fan flx frd fsy fst) bLawB rfl sLaw D.d_gL rfl rfl ?_
  intro Γ hΓ
  have hgl : Γ.glob = glLaw fpg fan flx frd fsy fst := hΓ.2.2.1
  show WPs pr w Γ ⟨locL (.list (ns.map .int)) .undef .undef .undef .undef .undef .undef .undef .undef .undef .undef .undef .undef .undef .undef .undef .undef .undef .undef .undef .undef .undef .undef .undef .undef .undef .undef .undef, [some (.ext (tabE P0 #[]))]⟩ (_ :: _ :: _ :: _ :: _ :: (fBody bLaw).drop 5) _
  refine ws_cons (wx_new (wl_cons (wp_int (wl_cons (wp_int (wl_cons (wp_int (wl_nil ⟨(show 3 ≤ sizeLine by decide), ?_⟩))))))))
  tm_at "q"
  refine then_next (ws_cons ?_)
  let J : Nat → List (Str × MV) → List (Option MO) → Prop := fun _ loc objs => ∃ z1 z2 c0 c1 c2, loc = locL (.list (ns.map .int)) (.mu 1) z1 z2 .undef .undef .undef .undef .undef .undef .undef .undef .undef .undef .undef .undef .undef .undef .undef .undef .undef .undef .undef .undef .undef .undef .undef .undef ∧ objs = [some (.ext (tabE P0 #[])), some (.lst [.int c0, .int c1, .int c2])]
  refine wx_forE (xs := (ns.map MV.int).take 63) J hgl (by tm_at "lk") (fun x hx => by
    obtain ⟨i, _, rfl⟩ := List.mem_map.mp (List.mem_of_mem_take hx); exact .int) ?_ ⟨.undef, .undef, 6, 9, 2474830, rfl, rfl⟩ (fun i x loc objs ex hx hlen hJ => ?_) (fun loc objs hlen hJ => ?_) (fun _ => rfl) (fun _ => rfl) (fun _ _ => rfl)
  · tm_at "x"
    refine sl_upto (b := 63) (by rw [List.length_map]; show _ ≤ 16777216; omega) ?_
    exact ⟨rfl, rfl⟩
  · obtain ⟨z1, z2, c0, c1, c2, rfl, rfl⟩ := hJ
    obtain ⟨v, rfl⟩ : ∃ v, x = .int v := by
      rw [List.getElem?_take] at hx
      split at hx
      · rw [List.getElem?_map] at hx
        cases h : ns[i]? with
        | none => rw [h] at hx; cases hx
        | some v => rw [h] at hx; cases hx; exact ⟨v, rfl⟩
      · cases hx
    tm_at "q"
    show WPs pr w Γ ⟨locL (.list (ns.map .int)) (.mu 1) (.int i) (.int v) .undef .undef .undef .undef .undef .undef .undef .undef .undef .undef .undef .undef .undef .undef .undef .undef .undef .undef .undef .undef .undef .undef .undef .undef, [some (.ext (tabE P0 #[])), some (.lst [.int c0, .int c1, .int c2]), some ex]⟩ [_] _
    have hm : ((i : Int)).fmod 3 = ((i % 3 : Nat) : Int) := by rw [Int.fmod_eq_emod_of_nonneg _ (by decide)]; rfl
    have hlt : i % 3 < 3 := Nat.mod_lt _ (by decide)
    generalize i % 3 = j at hm hlt
    obtain ⟨a, ha⟩ : ∃ a, ([MV.int c0, .int c1, .int c2] : List MV)[j]? = some (.int a) := by
      match j, hlt with
      | 0, _ => exact ⟨c0, rfl⟩
      | 1, _ => exact ⟨c1, rfl⟩
      | 2, _ => exact ⟨c2, rfl⟩
    refine ws_cons (wx_augmu (k := 1) (xs := [.int c0, .int c1, .int c2]) (j := (j : Int)) (a := a) (b := v) (wp_name (by tm_at "lk") rfl ⟨rfl, rfl⟩) ?_ rfl (show 3 ≤ 1000 by decide) (by omega) (by rw [Int.toNat_natCast]; exact ha) (wp_name (by tm_at "lk") rfl ⟨rfl, rfl⟩) ?_ (fun _ _ _ => rfl))
    · tm_at "x"
      refine w2_mod (by decide) ?_
      rw [hm]
      exact ⟨rfl, rfl⟩
    · refine then_next (ws_nil ⟨rfl, ?_⟩)
      rw [Int.toNat_natCast]
      match j, hlt with
      | 0, _ => exact ⟨[some (.ext (tabE P0 #[])), some (.lst [.int (a + v), .int c1, .int c2])], rfl, rfl, _, _, _, _, _, rfl, rfl⟩
      | 1, _ => exact ⟨[some (.ext (tabE P0 #[])), some (.lst [.int c0, .int (a + v), .int c2])], rfl, rfl, _, _, _, _, _, rfl, rfl⟩
      | 2, _ => exact ⟨[some (.ext (tabE P0 #[])), some (.lst [.int c0, .int c1, .int (a + v)])], rfl, rfl, _, _, _, _, _, rfl, rfl⟩
  obtain ⟨z1, z2, c0, c1, c2, rfl, rfl⟩ := hJ
  have m0 := Int.fmod_nonneg_of_pos c0 (b := 20) (by decide)
  have m1 := Int.fmod_nonneg_of_pos c1 (b := 20) (by decide)
  have n0 := Int.fmod_lt_of_pos c0 (b := 20) (by decide)
  have n1 := Int.fmod_lt_of_pos c1 (b := 20) (by decide)
  obtain ⟨hp, hq, A, ok, r, words, first, line, xs, line2, hA, hAl, hok, hr, hrl, R, F⟩ := pl (1 + c0.fmod 20) (1 + c1.fmod 20) c2 ⟨by omega, by omega⟩ ⟨by omega, by omega⟩
  show WPs pr w Γ ⟨locL (.list (ns.map .int)) (.mu 1) z1 z2 .undef .undef .undef .undef .undef .undef .undef .undef .undef .undef .undef .undef .undef .undef .undef .undef .undef .undef .undef .undef .undef .undef .undef .undef, [some (.ext (tabE P0 #[])), some (.lst [.int c0, .int c1, .int c2]), none]⟩ (_ :: _ :: _ :: (fBody bLaw).drop 5) _
  refine ws_cons ?_
  refine' wx_assign_tup ?_ ?hs ?hw
  case hs => intro _; rfl
  case hw => exact swapped_of hΓ.1 rfl
  tm_at "x"
  refine it_mu (k := 1) (xs := [.int c0, .int c1, .int c2]) rfl (by decide) (by decide) rfl ?_
  tm_at "x"
  refine w2_mod (by decide) ?_
  tm_at "x"
  refine it_mu (k := 1) (xs := [.int c0, .int c1, .int c2]) rfl (by decide) (by decide) rfl ?_
  tm_at "x"
  refine w2_mod (by decide) ?_
  tm_at "x"
  refine' wx_assign_tup ?_ ?hs ?hw
  case hs => intro _; rfl
  case hw => exact swapped_of hΓ.1 rfl
  tm_at "x"
  refine wc_pure hΓ (pf_answers D.d_T D.d_an hp hq hA) D.d_an (by decide) (fun y hy => by simp at hy; rcases hy with rfl | rfl <;> exact .int) fun v hv => ?_
  subst hv
  tm_at "x"
  refine it_mu (k := 1) (xs := [.int c0, .int c1, .int c2]) rfl (by decide) (by decide) rfl ?_
  refine wl_nil ?_
  refine wc_pure hΓ (pf_page D.d_T D.d_pg D.d_fw D.d_es D.d_gW D.d_gP hok hAl hr hrl) D.d_pg (by decide) (fun y hy => by simp at hy; rcases hy with rfl | rfl; exact .str; exact .int) fun v hv => ?_
  subst hv
  refine ⟨_, rfl, ?_⟩
  tm_at "q"
  refine then_next (ws_cons ?_)
  refine' wx_assign ?_ ?hs
  case hs => intro _; rfl
  tm_at "x"
  refine wc_mklex D.d_T D.d_L D.d_fi D.d_lx (by rw [Str.length_append]; show _ + 1 ≤ 100000; omega) hΓ (by decide) (k := 0) (show ObjAt _ 0 _ from rfl) fun X ps' => ?_
  tm_at "q"
  refine then_next ?_
  refine seg_b D hΓ R F fun σ h => ?_
  obtain ⟨l, h⟩ := h
  exact ⟨_, l, h, .bool, rfl, ps', rfl⟩
end


noncomputable def chrB (b : Bool) : Nat := if b then 60 else 62
noncomputable def strOf (l : List Bool) : Str := ⟨(l.map chrB).toArray⟩
noncomputable def ansI (l : List Bool) : List Int := l.map fun b => if b then 20 else 21
theorem strOf_len (l : List Bool) : (strOf l).length = l.length := by show (l.map chrB).toArray.size = _; simp
theorem slice_to (l : List Bool) (k : Nat) : Txt.slice (strOf l) none (some (k : Int)) = strOf (l.take k) := by
  have key : ∀ j : Nat, j ≤ l.length → Txt.slice (strOf l) none (some (j : Int)) = strOf (l.take j) := fun j hj => by
    have h := beq_iff_eq.mp (slice_closes_toL (x := strOf l) (j := (j : Int)) (by omega) (by rw [strOf_len]; omega))
    rw [h]
    unfold strOf
    simp [List.map_take]
  by_cases h : k ≤ l.length
  · exact key k h
  · rw [slice_to_beyond (by rw [strOf_len]; omega), strOf_len, key _ (Nat.le_refl _), List.take_of_length_le (Nat.le_refl _), List.take_of_length_le (by omega)]
theorem slice_from (l : List Bool) (k : Nat) (hk : k ≤ l.length) : Txt.slice (strOf l) (some (k : Int)) none = strOf (l.drop k) := by
  rw [slice_from_eq (b := (l.length : Int)) (by omega) (by rw [strOf_len]; omega) (by rw [strOf_len])]
  unfold strOf
  simp [List.map_drop]
  exact List.take_of_length_le (by simp)
/-- the signs of a sum -/
theorem strs1_app (x y : Str) : strs1 (x ++ y) = strs1 x ++ strs1 y := by
  show List.map _ (x.cps ++ y.cps).toList = _
  simp [strs1]
theorem strs1_len (x : Str) : (strs1 x).length = x.length := by simp [strs1, Str.length]
open PySem.StrLaws in
theorem occ_run (x : Str) (c : Nat) : ∀ (n a : Nat) (st : Array Nat × Nat), a + n = x.length + 1 → st.2 ≤ a → st.1.size ≤ a →
    ((forIn (List.range' a n) st (occBody x ⟨#[c]⟩ x.length (x.length + 1))).run.1.size = st.1.size + ((x.cps.toList.drop a).filter (· == c)).length)
  | 0, a, st, h1, _, _ => by
    have : x.cps.toList.drop a = [] := List.drop_eq_nil_of_le (by show x.cps.toList.length ≤ a; have : x.cps.toList.length = x.length := by simp [Str.length]
                                                                  omega)
    rw [this]; rfl
  | n + 1, a, st, h1, h2, h3 => by
    have hl : x.cps.toList.length = x.length := by simp [Str.length]
    rw [List.range'_succ, List.forIn_cons]
    unfold occBody
    have hs := subAt_one x c a
    by_cases hc : x.cps.toList[a]? = some c
    · have hq := hs.mpr hc
      have ha : a < x.cps.toList.length := (List.getElem?_eq_some_iff.mp hc).1
      have hlen : (⟨#[c]⟩ : Str).length = 1 := rfl
      rw [if_pos ⟨⟨⟨by omega, h2⟩, hq.1⟩, hq.2⟩]
      show (forIn (List.range' (a + 1) n) (st.1.push a, a + 1) (occBody x ⟨#[c]⟩ x.length (x.length + 1))).run.1.size = _
      rw [occ_run x c n (a + 1) _ (by omega) (Nat.le_refl _) (by rw [Array.size_push]; omega), Array.size_push]
      have e : x.cps.toList.drop a = c :: x.cps.toList.drop (a + 1) := by
        rw [List.drop_eq_getElem_cons ha]
        rw [List.getElem?_eq_getElem ha] at hc
        cases hc; rfl
      rw [e, List.filter_cons, if_pos (by simp)]
      simp only [List.length_cons]; omega
    · have hn : ¬ (((st.1.size < x.length + 1 ∧ st.2 ≤ a) ∧ a + (⟨#[c]⟩ : Str).length ≤ x.length) ∧ Builtin.Str.subAt x ⟨#[c]⟩ a = true) := fun q => hc (hs.mp ⟨q.1.2, q.2⟩)
      rw [if_neg hn]
      show (forIn (List.range' (a + 1) n) (st.1, st.2) (occBody x ⟨#[c]⟩ x.length (x.length + 1))).run.1.size = _
      rw [occ_run x c n (a + 1) _ (by omega) (Nat.le_succ_of_le h2) (Nat.le_succ_of_le h3)]
      by_cases ha : a < x.cps.toList.length
      · have e : x.cps.toList.drop a = x.cps.toList[a] :: x.cps.toList.drop (a + 1) := List.drop_eq_getElem_cons ha
        rw [e, List.filter_cons, if_neg (fun q => hc (by rw [List.getElem?_eq_getElem ha]; simpa using q))]
      · rw [List.drop_eq_nil_of_le (by omega), List.drop_eq_nil_of_le (by omega)]
open PySem.StrLaws in
theorem occ_count (x : Str) (c : Nat) : (Builtin.Str.occurrences x ⟨#[c]⟩ 0 x.length (x.length + 1)).length = (x.cps.toList.filter (· == c)).length := by
  rw [occ_eq, Array.length_toList, occ_run x c (x.length + 1 - 0) 0 (#[], 0) (by omega) (Nat.le_refl _) (Nat.le_refl _)]
  simp
noncomputable def nls (l : List Str) : Nat := (l.filter (· == nlS)).length
theorem nl_count (x : Str) : nlCount x = (nls (strs1 x) : Int) := by
  unfold nlCount nls strs1
  rw [show nlS = (⟨#[10]⟩ : Str) from rfl, occ_count]
  congr 1
  induction x.cps.toList with
  | nil => rfl
  | cons a l ih =>
    rw [List.map_cons, List.filter_cons, List.filter_cons]
    by_cases h : a = 10
    · subst h; rw [if_pos (by decide), if_pos (by decide)]; simp [ih]
    · rw [if_neg (by simpa using h), if_neg (fun q => h ?_)]
      · exact ih
      · have e : (⟨#[a]⟩ : Str) = ⟨#[10]⟩ := by simpa using q
        injection e with e
        simpa using e

theorem lineOf_add (l d : Int) (x : Str) : lineOf (l + d) x = lineOf l x + d := by unfold lineOf; split <;> omega
/-- a word that is closed in its own text is closed before any other -/
theorem lexQ_app (d : Int) (r : List Str) : ∀ (n : Nat) (l : Int) (xs : List Str) (tok : Str) (l' : Int) (xs' : List Str) (tok' : Str) (k : Nat), lexQ n l xs tok = (true, l', xs', tok') → lexQ (n + k) (l + d) (xs ++ r) tok = (true, l' + d, xs' ++ r, tok')
  | 0, _, _, _, _, _, _, _, h => by simp [lexQ] at h
  | n + 1, l, [], tok, _, _, _, _, h => by simp [lexQ] at h
  | n + 1, l, x :: xs, tok, l', xs', tok', k, h => by
    rw [show n + 1 + k = (n + k) + 1 by omega, List.cons_append]
    unfold lexQ at h ⊢
    rw [lineOf_add]
    by_cases h1 : (x == ("\"" : Str)) = true
    · rw [if_pos h1] at h ⊢; cases h; rfl
    · rw [if_neg h1] at h ⊢
      by_cases h2 : (x == ("\\" : Str)) = true
      · rw [if_pos h2] at h ⊢
        cases xs with
        | nil => cases n <;> simp [lexQ] at h
        | cons y ys =>
          rw [List.cons_append]
          show lexQ (n + k) (lineOf (lineOf l x + d) y) (ys ++ r) (tok ++ y) = _
          rw [lineOf_add]
          exact lexQ_app d r n _ ys _ l' xs' tok' k h
      · rw [if_neg h2] at h ⊢
        exact lexQ_app d r n _ xs _ l' xs' tok' k h
theorem lexB_app (d : Int) (r : List Str) : ∀ (n : Nat) (l : Int) (xs : List Str) (tok : Str) (l' : Int) (xs' : List Str) (tok' : Str) (k : Nat), lexB n l xs tok = (true, l', xs', tok') → lexB (n + k) (l + d) (xs ++ r) tok = (true, l' + d, xs' ++ r, tok')
  | 0, _, _, _, _, _, _, _, h => by simp [lexB] at h
  | n + 1, l, [], tok, _, _, _, _, h => by simp [lexB] at h
  | n + 1, l, x :: xs, tok, l', xs', tok', k, h => by
    rw [show n + 1 + k = (n + k) + 1 by omega, List.cons_append]
    unfold lexB at h ⊢
    rw [lineOf_add]
    by_cases h1 : isWs x = true
    · rw [if_pos h1] at h ⊢; cases h; rfl
    · rw [if_neg h1] at h ⊢
      by_cases h2 : (x == ("\\" : Str)) = true
      · rw [if_pos h2] at h ⊢
        cases xs with
        | nil => cases n <;> simp [lexB] at h
        | cons y ys =>
          rw [List.cons_append]
          show lexB (n + k) (lineOf (lineOf l x + d) y) (ys ++ r) (tok ++ y) = _
          rw [lineOf_add]
          exact lexB_app d r n _ ys _ l' xs' tok' k h
      · rw [if_neg h2] at h ⊢
        exact lexB_app d r n _ xs _ l' xs' tok' k h
/-- one closed word -/
noncomputable def lexC : List Str → Option (Int × List Str × Str)
  | [] => none
  | x :: xs => if isWs x then none else
    let z := if x == "\"" then lexQ xs.length (lineOf 0 x) xs Str.empty else if x == "\\" then (match xs with | [] => (false, 0, [], Str.empty) | y :: ys => lexB ys.length (lineOf (lineOf 0 x) y) ys (Str.empty ++ y)) else lexB xs.length (lineOf 0 x) xs (Str.empty ++ x)
    if z.1 then some z.2 else none
theorem lexC_app {enc : List Str} {l' : Int} {xs' : List Str} {tok : Str} (h : lexC enc = some (l', xs', tok)) (l : Int) (r : List Str) : lexG l (enc ++ r) = (l' + l, xs' ++ r, tok) := by
  cases enc with
  | nil => cases h
  | cons x xs =>
    unfold lexC at h
    dsimp only at h
    by_cases h0 : isWs x = true
    · rw [if_pos h0] at h; cases h
    rw [if_neg h0] at h
    unfold lexG
    rw [List.cons_append, List.length_cons]
    unfold lexO
    rw [if_neg h0, List.length_append]
    have e0 : lineOf l x = lineOf 0 x + l := by have := lineOf_add 0 l x; rwa [Int.zero_add] at this
    rw [e0]
    by_cases h1 : (x == ("\"" : Str)) = true
    · rw [if_pos h1] at h ⊢
      generalize hz : lexQ xs.length (lineOf 0 x) xs Str.empty = z at h
      obtain ⟨b, z⟩ := z
      cases b with
      | false => simp at h
      | true =>
        simp only [if_true, Option.some.injEq] at h
        subst h
        have := lexQ_app l r _ _ _ _ _ _ _ (r.length + 1) hz
        rw [show xs.length + r.length + 1 = xs.length + (r.length + 1) by omega, this]
    · rw [if_neg h1] at h ⊢
      by_cases h2 : (x == ("\\" : Str)) = true
      · rw [if_pos h2] at h ⊢
        cases xs with
        | nil => simp at h
        | cons y ys =>
          dsimp only at h
          rw [List.cons_append]
          show (lexB _ (lineOf (lineOf 0 x + l) y) (ys ++ r) (Str.empty ++ y)).2 = _
          rw [lineOf_add]
          change (if (lexB ys.length (lineOf (lineOf 0 x) y) ys (Str.empty ++ y)).1 = true then some (lexB ys.length (lineOf (lineOf 0 x) y) ys (Str.empty ++ y)).2 else none) = _ at h
          rcases hz : lexB ys.length (lineOf (lineOf 0 x) y) ys (Str.empty ++ y) with ⟨b, z⟩
          rw [hz] at h
          cases b with
          | false => simp at h
          | true =>
            simp only [if_true, Option.some.injEq] at h
            subst h
            have := lexB_app l r _ _ _ _ _ _ _ (r.length + 2) hz
            rw [show (y :: ys).length + r.length + 1 = ys.length + (r.length + 2) by simp; omega, this]
      · rw [if_neg h2] at h ⊢
        generalize hz : lexB xs.length (lineOf 0 x) xs (Str.empty ++ x) = z at h
        obtain ⟨b, z⟩ := z
        cases b with
        | false => simp at h
        | true =>
          simp only [if_true, Option.some.injEq] at h
          subst h
          have := lexB_app l r _ _ _ _ _ _ _ (r.length + 1) hz
          rw [show xs.length + r.length + 1 = xs.length + (r.length + 1) by omega, this]
noncomputable def pieces : List (List Bool) := [[true], [false], [true, true], [true, false], [false, true], [false, false], [true, true, true], [true, true, false], [true, false, true], [true, false, false], [false, true, true], [false, true, false], [false, false, true], [false, false, false]]
theorem mem_pieces : ∀ w : List Bool, w ≠ [] → w.length ≤ 3 → w ∈ pieces := by
  intro w h0 h3
  match w, h0, h3 with
  | [a], _, _ => cases a <;> decide
  | [a, b], _, _ => cases a <;> cases b <;> decide
  | [a, b, c], _, _ => cases a <;> cases b <;> cases c <;> decide
noncomputable def sb1 : List Int → Int × Int → Int × Int
  | [], z => z
  | s :: l, (a, c) => sb1 l (a + moreN s * (c + lessN s * a), c + lessN s * a)
/-- what is asked of a word's symbols -/
noncomputable def symOk (w : List Bool) (h : Nat) : Bool :=
  match symS (escS (strOf w) (escT h)) with
  | none => false
  | some sy => sy.all (fun s => !stops s) && decide (sy.length ≤ 40) && decide ((escS (strOf w) (escT h)).length ≤ 40) && decide ((sy.length : Int) = dSy (strOf w) h) && decide (((sy.filter fun s => decide (253 < s)).length : Int) = dSp (strOf w) h)
    && decide (sb1 sy (1, 0) = sb1 (ansI w) (1, 0)) && decide (sb1 sy (0, 1) = sb1 (ansI w) (0, 1))
/-- what is asked of its text: hand, quoting, blank -/
noncomputable def encQ (w : List Bool) (h m b : Nat) : Str :=
  if m = 1 then ("\"" ++ escS (strOf w) (escT h)) ++ "\"" else if m = 2 then Builtin.Str.glued Str.empty (backL (escS (strOf w) (escT h))) ++ ⟨#[(wsS.cps[b]?).getD 0]⟩ else escS (strOf w) (escT h) ++ ⟨#[(wsS.cps[b]?).getD 0]⟩
noncomputable def encOk (w : List Bool) (h m b : Nat) : Bool :=
  decide (lexC (strs1 (encQ w h m b)) = some ((nls (strs1 (encQ w h m b)) : Int), [], escS (strOf w) (escT h))) && (strs1 (encQ w h m b)).all fun x => PyData.canLay0 (.str x) && !(Str.empty == x) && x.length == 1
noncomputable def fitsB (x : Str) : List (Str × Str) → Bool
  | [] => true
  | (y, z) :: l => decide (x.length + (occs x y).length * z.length ≤ sizeLine) && decide ((repS x y z).length ≤ sizeLine) && fitsB (if hasS x y then repS x y z else x) l
theorem fitsB_ok : ∀ (l : List (Str × Str)) (x : Str), fitsB x l = true → fitsS x l
  | [], _, _ => trivial
  | (y, z) :: l, x, h => by
    simp only [fitsB, Bool.and_eq_true, decide_eq_true_eq] at h
    exact ⟨⟨h.1.1, h.1.2⟩, fitsB_ok l _ h.2⟩
noncomputable def okB (w : List Bool) (h : Nat) : Bool :=
  let x := strOf w
  decide (x.length ≤ 3) && fitsB x (escT h) && decide (joinLen Str.empty (otherL x h) ≤ sizeLine) && decide ((otherS x h).length ≤ sizeLine)
    && decide (("><" : Str).length + (occs "><" (bareOf h)).length * Str.empty.length ≤ sizeLine) && decide ((sepOf h).length ≤ sizeLine)
    && (!(bareOf h != Str.empty) || (!((sepOf h).length == 0) && !(bareOf h == Str.empty)))
    && decide ((splitS x (sepOf h)).length ≤ 100) && (splitS x (sepOf h)).all (fun r => decide (r.length ≤ 100))
    && decide ((escS x (escT h)).length ≤ 40) && decide (joinLen Str.empty (backL (escS x (escT h))) ≤ 100) && decide ((Builtin.Str.glued Str.empty (backL (escS x (escT h)))).length ≤ 100)
theorem okB_ok {w : List Bool} {h : Nat} (e : okB w h = true) : OkC (strOf w) h := by
  simp only [okB, Bool.and_eq_true, decide_eq_true_eq] at e
  obtain ⟨⟨⟨⟨⟨⟨⟨⟨⟨⟨⟨a1, a2⟩, a3⟩, a4⟩, a5⟩, a6⟩, a7⟩, a8⟩, a9⟩, a10⟩, a11⟩, a12⟩ := e
  refine ⟨a1, fitsB_ok _ _ a2, a3, a4, ⟨a5, a6⟩, fun hb => ?_, ⟨a8, fun r hr => by have := List.all_eq_true.mp a9 r hr; simpa using this⟩, a10, a11, a12⟩
  rw [hb] at a7
  simp only [Bool.not_true, Bool.false_or, Bool.and_eq_true, Bool.not_eq_true'] at a7
  exact a7
theorem sym_0 : (pieces.all fun w => symOk w 0) = true := by decide +kernel
theorem sym_1 : (pieces.all fun w => symOk w 1) = true := by decide +kernel
theorem sym_2 : (pieces.all fun w => symOk w 2) = true := by decide +kernel
theorem sym_3 : (pieces.all fun w => symOk w 3) = true := by decide +kernel
theorem sym_4 : (pieces.all fun w => symOk w 4) = true := by decide +kernel
theorem ok_0 : (pieces.all fun w => okB w 0) = true := by decide +kernel
theorem ok_1 : (pieces.all fun w => okB w 1) = true := by decide +kernel
theorem ok_2 : (pieces.all fun w => okB w 2) = true := by decide +kernel
theorem ok_3 : (pieces.all fun w => okB w 3) = true := by decide +kernel
theorem ok_4 : (pieces.all fun w => okB w 4) = true := by decide +kernel
noncomputable def encAll (h : Nat) : Bool := pieces.all fun w => [0, 1, 2].all fun m => [0, 1, 2, 3].all fun b => encOk w h m b
theorem enc_0 : encAll 0 = true := by decide +kernel
theorem enc_1 : encAll 1 = true := by decide +kernel
theorem enc_2 : encAll 2 = true := by decide +kernel
theorem enc_3 : encAll 3 = true := by decide +kernel
theorem enc_4 : encAll 4 = true := by decide +kernel

noncomputable def pathB : Nat → Int → Int → Int → Int → Int → Int → List Bool
  | 0, _, _, _, _, _, _ => []
  | n + 1, p, q, a, b, c, d => if p * (b + d) != q * (a + c) then (if decide (p * (b + d) < q * (a + c)) then true :: pathB n p q a b (a + c) (b + d) else false :: pathB n p q (a + c) (b + d) c d) else []
noncomputable def pathOf (p q : Int) : List Bool := pathB 25 p q 0 1 1 0
noncomputable def goodP (p q : Int) : Bool :=
  let a := pathOf p q
  let g := maxI (divs p q)
  let z := sb1 (ansI a) (0, 1)
  let y := sb1 (ansI a) (1, 0)
  let t := sb1 (ansI a) (1, 1)
  decide (a.length ≤ 20) && decide (ansW p q 100 0 1 1 0 Str.empty = some (strOf a)) && decide (0 < (divs p q).length) && decide (1 ≤ g ∧ g ≤ 20) && decide (1 ≤ (p + q).fdiv g ∧ (p + q).fdiv g ≤ 1000)
    && decide (z.1 + z.2 = p.fdiv g) && decide (y.1 + y.2 = q.fdiv g) && decide (t.1 + t.2 = (p + q).fdiv g) && decide (0 < t.2) && decide (t.2 < (p + q).fdiv g) && decide ((t.2 * q.fdiv g).fmod ((p + q).fdiv g) = 1)
noncomputable def goodR (p : Nat) : Bool := (List.range 20).all fun q => goodP ((p : Int) + 1) ((q : Int) + 1)
theorem good_0 : ((List.range 10).all fun p => goodR p) = true := by decide +kernel
theorem good_1 : ((List.range 10).all fun p => goodR (p + 10)) = true := by decide +kernel
theorem good_all (p q : Int) (hp : 1 ≤ p ∧ p ≤ 20) (hq : 1 ≤ q ∧ q ≤ 20) : goodP p q = true := by
  obtain ⟨a, rfl⟩ : ∃ a : Nat, p = (a : Int) + 1 := ⟨(p - 1).toNat, by omega⟩
  obtain ⟨b, rfl⟩ : ∃ b : Nat, q = (b : Int) + 1 := ⟨(q - 1).toNat, by omega⟩
  have h : goodR a = true := by
    by_cases h : a < 10
    · exact List.all_eq_true.mp good_0 a (List.mem_range.mpr h)
    · have := List.all_eq_true.mp good_1 (a - 10) (List.mem_range.mpr (by omega))
      rwa [Nat.sub_add_cancel (by omega)] at this
  exact List.all_eq_true.mp h b (List.mem_range.mpr (by omega))

theorem sb1_app : ∀ (l l' : List Int) (z : Int × Int), sb1 (l ++ l') z = sb1 l' (sb1 l z)
  | [], _, _ => rfl
  | s :: l, l', (a, c) => sb1_app l l' (a + moreN s * (c + lessN s * a), c + lessN s * a)
theorem sb1_lin : ∀ (l : List Int) (a c : Int), sb1 l (a, c) = (a * (sb1 l (1, 0)).1 + c * (sb1 l (0, 1)).1, a * (sb1 l (1, 0)).2 + c * (sb1 l (0, 1)).2)
  | [], a, c => by simp [sb1]
  | s :: l, a, c => by
    have h := sb1_lin l
    unfold sb1
    rw [h (a + _) _, h (1 + _) _, h (0 + _) _]
    simp only [Prod.mk.injEq]
    generalize (sb1 l (1, 0)).1 = A
    generalize (sb1 l (0, 1)).1 = B
    generalize (sb1 l (1, 0)).2 = D
    generalize (sb1 l (0, 1)).2 = E
    generalize lessN s = u
    generalize moreN s = v
    constructor <;> simp only [Int.mul_add, Int.add_mul, Int.mul_one, Int.zero_mul, Int.mul_zero, Int.zero_add, Int.add_zero] <;> ac_nf <;> omega
theorem sb1_ext {l l' : List Int} (h1 : sb1 l (1, 0) = sb1 l' (1, 0)) (h2 : sb1 l (0, 1) = sb1 l' (0, 1)) (z : Int × Int) : sb1 l z = sb1 l' z := by
  obtain ⟨a, c⟩ := z
  rw [sb1_lin l, sb1_lin l', h1, h2]
theorem sbF_sb1 : ∀ (l : List Int) (a b c d : Int), sbF l (a, b, c, d) = ((sb1 l (a, c)).1, (sb1 l (b, d)).1, (sb1 l (a, c)).2, (sb1 l (b, d)).2)
  | [], _, _, _, _ => rfl
  | s :: l, a, b, c, d => by unfold sbF sb1; exact sbF_sb1 l _ _ _ _
theorem cwF_sb1 : ∀ (l : List Int) (m n : Int), cwF l (m, n) = sb1 l (m, n)
  | [], _, _ => rfl
  | s :: l, m, n => by unfold cwF sb1; exact cwF_sb1 l _ _
noncomputable abbrev Ch := List Bool × Nat
noncomputable def encC (z : Ch) : List Str := strs1 (encS (strOf z.1) z.2)
noncomputable def wordC (z : Ch) : Str := escS (strOf z.1) (escT (z.2 / 36))
noncomputable def Good (z : Ch) : Prop := z.1 ∈ pieces ∧ z.2 < 180
theorem all_get {p : List Bool → Nat → Bool} (h0 : (pieces.all fun w => p w 0) = true) (h1 : (pieces.all fun w => p w 1) = true) (h2 : (pieces.all fun w => p w 2) = true) (h3 : (pieces.all fun w => p w 3) = true) (h4 : (pieces.all fun w => p w 4) = true) {w : List Bool} (hw : w ∈ pieces) : ∀ h, h < 5 → p w h = true
  | 0, _ => List.all_eq_true.mp h0 w hw
  | 1, _ => List.all_eq_true.mp h1 w hw
  | 2, _ => List.all_eq_true.mp h2 w hw
  | 3, _ => List.all_eq_true.mp h3 w hw
  | 4, _ => List.all_eq_true.mp h4 w hw
structure ChOk (z : Ch) : Prop where
  lex : lexC (encC z) = some ((nls (encC z) : Int), [], wordC z)
  sgl : ∀ x ∈ encC z, sgl x
  sy : symS (wordC z) = some (symW (wordC z))
  st : ∀ s ∈ symW (wordC z), stops s = false
  l1 : (symW (wordC z)).length ≤ 40
  l2 : (wordC z).length ≤ 40
  ny : ((symW (wordC z)).length : Int) = dSy (strOf z.1) (z.2 / 36)
  np : (((symW (wordC z)).filter fun s => decide (253 < s)).length : Int) = dSp (strOf z.1) (z.2 / 36)
  sb : ∀ v, sb1 (symW (wordC z)) v = sb1 (ansI z.1) v
  ok : ∀ h, h < 5 → OkC (strOf z.1) h
theorem chOk {z : Ch} (g : Good z) : ChOk z := by
  obtain ⟨w, f⟩ := z
  obtain ⟨hw, hf⟩ := g
  dsimp only at hw hf
  have h5 : f / 36 < 5 := by omega
  have e := all_get (p := fun w h => [0, 1, 2].all fun m => [0, 1, 2, 3].all fun b => encOk w h m b) enc_0 enc_1 enc_2 enc_3 enc_4 hw _ h5
  have e1 := List.all_eq_true.mp e (f / 3 % 3) (by have : f / 3 % 3 < 3 := Nat.mod_lt _ (by decide)
                                                   simp; omega)
  have e2 := List.all_eq_true.mp e1 (f / 9 % 4) (by have : f / 9 % 4 < 4 := Nat.mod_lt _ (by decide)
                                                    simp; omega)
  have s := all_get (p := symOk) sym_0 sym_1 sym_2 sym_3 sym_4 hw _ h5
  have o := fun h hh => okB_ok (all_get (p := okB) ok_0 ok_1 ok_2 ok_3 ok_4 hw h hh)
  have ee : encS (strOf w) f = encQ w (f / 36) (f / 3 % 3) (f / 9 % 4) := rfl
  unfold encOk at e2
  rw [← ee] at e2
  simp only [Bool.and_eq_true, decide_eq_true_eq] at e2
  unfold symOk at s
  have hsy : ∃ sy, symS (escS (strOf w) (escT (f / 36))) = some sy := by
    cases q : symS (escS (strOf w) (escT (f / 36))) with
    | none => rw [q] at s; cases s
    | some sy => exact ⟨sy, rfl⟩
  obtain ⟨sy, hsy⟩ := hsy
  have hW : symW (escS (strOf w) (escT (f / 36))) = sy := by unfold symW; rw [hsy]; rfl
  rw [hsy] at s
  simp only [Bool.and_eq_true, decide_eq_true_eq] at s
  obtain ⟨⟨⟨⟨⟨⟨s1, s2⟩, s3⟩, s4⟩, s5⟩, s6⟩, s7⟩ := s
  refine ⟨e2.1, fun x hx => ?_, ?_, ?_, ?_, s3, ?_, ?_, ?_, o⟩
  · have := List.all_eq_true.mp e2.2 x hx
    simp only [Bool.and_eq_true, Bool.not_eq_true', beq_iff_eq] at this
    exact ⟨this.1.1, this.1.2, this.2⟩
  · show symS (escS (strOf w) (escT (f / 36))) = some (symW (escS (strOf w) (escT (f / 36))))
    rw [hW, hsy]
  · show ∀ s ∈ symW (escS (strOf w) (escT (f / 36))), _
    rw [hW]
    intro t ht
    have := List.all_eq_true.mp s1 t ht
    simpa using this
  · show (symW (escS (strOf w) (escT (f / 36)))).length ≤ 40
    rw [hW]; exact s2
  · show ((symW (escS (strOf w) (escT (f / 36)))).length : Int) = _
    rw [hW]; exact s4
  · show (((symW (escS (strOf w) (escT (f / 36)))).filter _).length : Int) = _
    rw [hW]; exact s5
  · show ∀ v, sb1 (symW (escS (strOf w) (escT (f / 36)))) v = _
    rw [hW]; exact sb1_ext s6 s7
noncomputable def chunks : Nat → List Bool → Int → List Ch
  | 0, _, _ => []
  | n + 1, a, c => match a with
    | [] => []
    | x :: l => ((x :: l).take (1 + (c.fmod 180).toNat % 3), (c.fmod 180).toNat) :: chunks n ((x :: l).drop (1 + (c.fmod 180).toNat % 3)) (c.fdiv 180)
theorem chunks_good : ∀ (n : Nat) (a : List Bool) (c : Int), ∀ z ∈ chunks n a c, Good z
  | 0, _, _, z, h => by simp [chunks] at h
  | n + 1, [], c, z, h => by simp [chunks] at h
  | n + 1, x :: l, c, z, h => by
    unfold chunks at h
    rcases List.mem_cons.mp h with h | h
    · subst h
      have h2 := Int.fmod_lt_of_pos c (b := 180) (by decide)
      refine ⟨mem_pieces _ ?_ ?_, by show (c.fmod 180).toNat < 180; omega⟩
      · rw [show 1 + (c.fmod 180).toNat % 3 = ((c.fmod 180).toNat % 3) + 1 by omega, List.take_succ_cons]; simp
      · rw [List.length_take]; have := Nat.mod_lt (c.fmod 180).toNat (show 3 > 0 by decide); omega
    · exact chunks_good n _ _ z h
theorem chunks_flat : ∀ (n : Nat) (a : List Bool) (c : Int), a.length < n → (chunks n a c).flatMap (·.1) = a
  | 0, _, _, h => absurd h (Nat.not_lt_zero _)
  | n + 1, [], c, _ => rfl
  | n + 1, x :: l, c, h => by
    unfold chunks
    rw [List.flatMap_cons, chunks_flat n _ _ (by simp at h ⊢; omega)]
    exact List.take_append_drop _ _
theorem chunks_len : ∀ (n : Nat) (a : List Bool) (c : Int), (chunks n a c).length ≤ a.length
  | 0, _, _ => Nat.zero_le _
  | n + 1, [], c => Nat.zero_le _
  | n + 1, x :: l, c => by
    unfold chunks
    have := chunks_len n ((x :: l).drop (1 + (c.fmod 180).toNat % 3)) (c.fdiv 180)
    simp only [List.length_cons, List.length_drop] at this ⊢
    omega
noncomputable def okS (x : Str) : Bool := pieces.any fun w => x == strOf w
theorem okS_ok (x : Str) (h : okS x = true) : ∀ k, k < 5 → OkC x k := by
  obtain ⟨w, hw, e⟩ := List.any_eq_true.mp h
  have e : x = strOf w := by simpa using e
  subst e
  exact fun k hk => okB_ok (all_get (p := okB) ok_0 ok_1 ok_2 ok_3 ok_4 hw k hk)
noncomputable def catC (P : Str) (l : List Ch) : Str := l.foldl (fun P z => P ++ encS (strOf z.1) z.2) P
theorem strs_cat : ∀ (l : List Ch) (P : Str), strs1 (catC P l) = strs1 P ++ l.flatMap encC
  | [], P => by simp [catC]
  | z :: l, P => by
    show strs1 (catC (P ++ encS (strOf z.1) z.2) l) = _
    rw [strs_cat l, strs1_app, List.flatMap_cons, List.append_assoc]; rfl
theorem page_chunks : ∀ (n : Nat) (a : List Bool) (c : Int) (P : Str) (sp sy : Int), a.length < n → pageL okS n (strOf a) c P sp sy = some (catC P (chunks n a c), sp + ((chunks n a c).map fun z => dSp (strOf z.1) (z.2 / 36)).sum, sy + ((chunks n a c).map fun z => dSy (strOf z.1) (z.2 / 36)).sum)
  | 0, _, _, _, _, _, h => absurd h (Nat.not_lt_zero _)
  | n + 1, [], c, P, sp, sy, _ => by
    unfold pageL
    rw [if_neg (by decide)]
    simp [chunks, catC]
  | n + 1, x :: l, c, P, sp, sy, h => by
    unfold pageL chunks
    have hne : (strOf (x :: l) != Str.empty) = true := by
      have : strOf (x :: l) ≠ Str.empty := fun e => by
        have := congrArg Str.length e
        rw [strOf_len] at this
        cases this
      simpa using this
    rw [if_pos hne]
    dsimp only
    generalize hf : (c.fmod 180).toNat = f
    have e1 : (1 : Int) + ((f % 3 : Nat) : Int) = ((1 + f % 3 : Nat) : Int) := by omega
    rw [e1, slice_to]
    have hlt := Nat.mod_lt f (show 3 > 0 by decide)
    have hp : (x :: l).take (1 + f % 3) ∈ pieces := by
      refine mem_pieces _ ?_ ?_
      · rw [show 1 + f % 3 = f % 3 + 1 by omega, List.take_succ_cons]; simp
      · rw [List.length_take]; omega
    have hok : okS (strOf ((x :: l).take (1 + f % 3))) = true := List.any_eq_true.mpr ⟨_, hp, by simp⟩
    rw [if_pos hok, strOf_len, slice_from _ _ (by rw [List.length_take]; exact Nat.min_le_right _ _)]
    have ed : (x :: l).drop ((x :: l).take (1 + f % 3)).length = (x :: l).drop (1 + f % 3) := by
      rw [List.length_take]
      by_cases hq : 1 + f % 3 ≤ (x :: l).length
      · rw [Nat.min_eq_left hq]
      · rw [Nat.min_eq_right (by omega), List.drop_eq_nil_of_le (Nat.le_refl _), List.drop_eq_nil_of_le (by omega)]
    rw [ed, page_chunks n _ _ _ _ _ (by simp at h ⊢; omega)]
    simp only [List.map_cons, List.sum_cons, Option.some.injEq, Prod.mk.injEq]
    exact ⟨rfl, by omega, by omega⟩

theorem str_lapp (x y : Str) : (x ++ y).length = x.length + y.length := by rw [← strs1_len, strs1_app, List.length_append, strs1_len, strs1_len]
theorem encC_len {z : Ch} (g : Good z) : (encS (strOf z.1) z.2).length ≤ 105 := by
  have o := (chOk g).ok (z.2 / 36) (by have := g.2; omega)
  unfold encS
  have h1 := o.xl
  have h2 := o.bl
  split
  · rw [str_lapp, str_lapp]; show 1 + _ + 1 ≤ _; omega
  · split
    · rw [str_lapp]; show _ + 1 ≤ _; omega
    · rw [str_lapp]; show _ + 1 ≤ _; omega
noncomputable def symC (z : Ch) : List Int := symW (wordC z)
theorem xs_lexG (line : Int) : lexG line [("x" : Str)] = (line, [], ("x" : Str)) := by
  have h1 : isWs "x" = false := by decide +kernel
  unfold lexG
  show lexO 2 line ["x"] = _
  unfold lexO
  rw [if_neg (by rw [h1]; decide), if_neg (by decide), if_neg (by decide)]
  rfl
theorem read_chunks : ∀ (l : List Ch) (n : Nat) (line : Int) (words : List Str) (row : List Int), (∀ z ∈ l, Good z) → l.length < n →
    readS n line (l.flatMap encC ++ [("x" : Str)]) words row = some (words ++ l.map wordC, row ++ l.flatMap symC, [256], line + (nls (l.flatMap encC) : Int), [])
  | [], 0, _, _, _, _, h => absurd h (Nat.not_lt_zero _)
  | [], n + 1, line, words, row, _, _ => by
    unfold readS
    have hs : symS "x" = some [256] := by decide +kernel
    rw [show ([] : List Ch).flatMap encC ++ [("x" : Str)] = [("x" : Str)] from rfl, xs_lexG]
    dsimp only
    rw [if_pos (by decide), hs]
    dsimp only
    rw [if_pos (by decide), if_pos (by decide)]
    simp [nls]
  | z :: l, 0, _, _, _, _, h => absurd h (Nat.not_lt_zero _)
  | z :: l, n + 1, line, words, row, hg, h => by
    have o := chOk (hg z List.mem_cons_self)
    unfold readS
    rw [List.flatMap_cons, List.append_assoc, lexC_app o.lex]
    dsimp only
    have h1 := o.l1
    have h2 := o.l2
    rw [if_pos (by omega), o.sy]
    dsimp only
    rw [if_pos (by omega), if_neg (by
      intro q
      obtain ⟨s, hs, e⟩ := List.any_eq_true.mp q
      rw [o.st s hs] at e; cases e)]
    rw [List.nil_append, read_chunks l n _ _ _ (fun y hy => hg y (List.mem_cons_of_mem _ hy)) (by simp at h; omega)]
    simp only [List.map_cons, List.flatMap_cons, List.append_assoc, List.singleton_append, Option.some.injEq, Prod.mk.injEq, nls, List.filter_append, List.length_append, true_and, and_true]
    refine ⟨rfl, by omega⟩
theorem sy_len : ∀ l : List Ch, (∀ z ∈ l, Good z) → ((l.flatMap symC).length : Int) = (l.map fun z => dSy (strOf z.1) (z.2 / 36)).sum
  | [], _ => rfl
  | z :: l, h => by
    have o := (chOk (h z List.mem_cons_self)).ny
    rw [List.flatMap_cons, List.length_append, List.map_cons, List.sum_cons, ← sy_len l (fun y hy => h y (List.mem_cons_of_mem _ hy)), ← o]
    unfold symC; omega
theorem sp_len : ∀ l : List Ch, (∀ z ∈ l, Good z) → (((l.flatMap symC).filter fun s => decide (253 < s)).length : Int) = (l.map fun z => dSp (strOf z.1) (z.2 / 36)).sum
  | [], _ => rfl
  | z :: l, h => by
    have o := (chOk (h z List.mem_cons_self)).np
    rw [List.flatMap_cons, List.filter_append, List.length_append, List.map_cons, List.sum_cons, ← sp_len l (fun y hy => h y (List.mem_cons_of_mem _ hy)), ← o]
    unfold symC; omega
theorem sy_sb : ∀ l : List Ch, (∀ z ∈ l, Good z) → ∀ v, sb1 (l.flatMap symC) v = sb1 (ansI (l.flatMap (·.1))) v
  | [], _, _ => rfl
  | z :: l, h, v => by
    rw [List.flatMap_cons, List.flatMap_cons, sb1_app]
    unfold ansI
    rw [List.map_append, sb1_app]
    have := (chOk (h z List.mem_cons_self)).sb v
    unfold ansI at this
    unfold symC at *
    rw [this]
    exact sy_sb l (fun y hy => h y (List.mem_cons_of_mem _ hy)) _
theorem sy_size : ∀ l : List Ch, (∀ z ∈ l, Good z) → (l.flatMap symC).length ≤ 40 * l.length
  | [], _ => Nat.zero_le _
  | z :: l, h => by
    have o := (chOk (h z List.mem_cons_self)).l1
    have := sy_size l (fun y hy => h y (List.mem_cons_of_mem _ hy))
    rw [List.flatMap_cons, List.length_append, List.length_cons]
    unfold symC at *; omega
theorem enc_size : ∀ l : List Ch, (∀ z ∈ l, Good z) → (l.flatMap encC).length ≤ 105 * l.length
  | [], _ => Nat.zero_le _
  | z :: l, h => by
    have o := encC_len (h z List.mem_cons_self)
    have := enc_size l (fun y hy => h y (List.mem_cons_of_mem _ hy))
    rw [List.flatMap_cons, List.length_append, List.length_cons]
    have e : (encC z).length = (encS (strOf z.1) z.2).length := strs1_len _
    omega
theorem lawD (p q c : Int) (hp : 1 ≤ p ∧ p ≤ 20) (hq : 1 ≤ q ∧ q ≤ 20) : LawD p q c := by
  have G := good_all p q hp hq
  unfold goodP at G
  simp only [Bool.and_eq_true, decide_eq_true_eq] at G
  obtain ⟨⟨⟨⟨⟨⟨⟨⟨⟨⟨g1, g2⟩, g3⟩, g4⟩, g5⟩, g6⟩, g7⟩, g8⟩, g9⟩, g10⟩, g11⟩ := G
  generalize ha : pathOf p q = a at *
  have hgood := chunks_good 90 a c
  have hflat := chunks_flat 90 a c (by omega)
  have hlen := chunks_len 90 a c
  have hpage := page_chunks 90 a c Str.empty 0 0 (by omega)
  generalize chunks 90 a c = l at *
  have hl : l.length ≤ 20 := by omega
  have hcat : strs1 (catC Str.empty l) = l.flatMap encC := by rw [strs_cat]; rfl
  have hcx : strs1 (catC Str.empty l ++ "x") = l.flatMap encC ++ [("x" : Str)] := by rw [strs1_app, hcat]; rfl
  have es := enc_size l hgood
  have ss := sy_size l hgood
  have hsb := sy_sb l hgood
  rw [hflat] at hsb
  have hW : (l.map wordC).flatMap symW = l.flatMap symC := by rw [List.flatMap_map]; rfl
  have hst : ∀ s ∈ l.flatMap symC, stops s = false := fun s hs => by
    obtain ⟨z, hz, h⟩ := List.mem_flatMap.mp hs
    exact (chOk (hgood z hz)).st s h
  have hread := read_chunks l 25 1 [] [] hgood (by omega)
  have hsglC : ∀ x ∈ l.flatMap encC ++ [("x" : Str)], sgl x := fun x hx => by
    rcases List.mem_append.mp hx with h | h
    · obtain ⟨z, hz, h⟩ := List.mem_flatMap.mp h
      exact (chOk (hgood z hz)).sgl x h
    · rw [List.mem_singleton.mp h]; exact ⟨by decide +kernel, by decide +kernel, by decide +kernel⟩
  refine ⟨hp, hq, strOf a, okS, _, l.map wordC, l.flatMap symC, 0, (1 + (nls (l.flatMap encC) : Int), []), (0, []), g2, by rw [strOf_len]; omega, okS_ok, hpage, ?_, ?_, ?_⟩
  · rw [← strs1_len, hcat]; omega
  · refine { z := ?_, s := ?_, read := ?_, z2 := Nat.zero_le _, s2 := (fun x hx => by cases hx), last := rfl, nil := (by decide +kernel), b := ⟨?_, fun x hx => ?_⟩, c := ?_ }
    · rw [hcx, List.length_append]; show _ + 1 ≤ _; omega
    · rw [hcx]; exact hsglC
    · rw [hcx, hread]; rfl
    · rw [List.length_map]; omega
    · obtain ⟨z, hz, rfl⟩ := List.mem_map.mp hx
      have o := chOk (hgood z hz)
      have h1 := o.l1
      have h2 := o.l2
      exact ⟨by omega, o.sy, by omega⟩
    · rw [hW]
      refine { l1 := (by omega), l2 := (by omega), line := ?_, ter := fun s hs => ?_, sy1 := ?_, sy2 := ?_, sp1 := ?_, sp2 := ?_ }
      · rw [nl_count, hcx]
        simp only [nls, List.filter_append, List.length_append]
        rfl
      · have := hst s hs
        simp only [stops, Bool.or_eq_false_iff, Bool.not_eq_false', decide_eq_true_eq] at this
        have := this.2
        simp; omega
      · rw [sy_len l hgood]; simp
      · rw [sy_len l hgood]; simp
      · rw [sp_len l hgood]; simp
      · rw [sp_len l hgood]; simp
  · rw [hW]
    exact { hp := hp, hq := hq, l1 := (by omega), l2 := (by omega), dv := g3, cm := g4, tot := g5, e1 := (by rw [sbF_sb1, hsb, hsb]; exact g6), e2 := (by rw [sbF_sb1, hsb, hsb]; exact g7), e3 := (by rw [cwF_sb1, hsb]; exact g8), e4 := (by rw [cwF_sb1, hsb]; exact g9), e5 := (by rw [cwF_sb1, hsb]; exact g10), e6 := (by rw [cwF_sb1, hsb]; exact g11) }

open PySem.W.X
/-- the heap without the code table that grows -/
noncomputable def noTab (h : Heap) : Heap := { h with objs := h.objs.set! 124 { cls := .none, data := .freed } }
theorem noTab_ne {h : Heap} {b : Addr} (q : b ≠ 124) : (noTab h).get? b = h.get? b := by
  unfold noTab Heap.get?
  dsimp only
  rw [Array.set!_eq_setIfInBounds, Array.getElem?_setIfInBounds_ne (Ne.symm q)]
theorem noTab_at {h : Heap} : (noTab h).get? 124 = none := by
  unfold noTab Heap.get?
  dsimp only
  rw [Array.set!_eq_setIfInBounds, Array.getElem?_setIfInBounds_self]
  by_cases q : 124 < h.objs.size
  · rw [if_pos q]
  · rw [if_neg q]
theorem noTab_sub {h : Heap} {b : Addr} {o : Obj} (e : (noTab h).get? b = some o) : h.get? b = some o := by
  by_cases q : b = 124
  · subst q; rw [noTab_at] at e; cases e
  · rwa [noTab_ne q] at e
theorem fn_of {h hB : Heap} (kB : ∀ b o, b ≠ 124 → h.get? b = some o → hB.get? b = some o) {f c : Addr} {st : Stmt} {qual : Str} (e : seeF h f = some (fnV st qual c)) (k : h.codeRecOk (.ref c) qual = true) (hf : f ≠ 124) (hc : c ≠ 124) :
    ∃ od osl pm ct doc, hB.get? f = some ⟨.type "function", od, .func (fnOf (fName st) qual (fArgs st) (fBody st) (fScope st) .none .none doc pm none (.ref c) ct), osl⟩ ∧ hB.CodeRec (.ref c) qual := by
  unfold seeF at e
  split at e
  · rename_i oc od fd osl ho
    obtain ⟨f1, f2, f3, f4, f5, f6, f7, f8, f9, f10, f11, f12, f13, f14, f15⟩ := fd
    simp only [fnV, Option.some.injEq, Prod.mk.injEq] at e
    obtain ⟨rfl, rfl, rfl, rfl, rfl, rfl, rfl, rfl, rfl, rfl, rfl, rfl, rfl⟩ := e
    obtain ⟨c', o, vs, t, e1, e2, e3⟩ := Heap.CodeRec.of_ok k
    cases e1
    exact ⟨od, osl, f11, f14, f10, kB f _ hf ho, c, o, vs, t, rfl, kB c _ hc e2, e3⟩
  · cases e
theorem ns_of {h hB : Heap} (kB : ∀ b o, b ≠ 124 → h.get? b = some o → hB.get? b = some o) {a : Addr} (e : h.isNs a = true) (ha : a ≠ 124) : hB.Ns a (h.nsMap a) := by
  obtain ⟨o, es, ep, h1, h2⟩ := Heap.Ns.of_isNs e
  exact ⟨o, es, ep, kB a _ ha h1, h2⟩
theorem tab_of {h : Heap} {a : Addr} {n : Nat} {l : List (Str × Int × Int)} (e : seeTab h a = some (.type "dict", none, n, l)) :
    ∃ ds : Array DictEntry, h.get? a = some { cls := .type "dict", data := .dict ds n } ∧ ds.size = l.length ∧ ∀ (i : Nat) (x : Str × Int × Int) (d : DictEntry), l[i]? = some x → ds[i]? = some d → (∃ t, d.key = .str x.1 t) ∧ d.hash = x.2.2 ∧ ∃ t, d.val = .int x.2.1 t := by
  unfold seeTab at e
  split at e
  · rename_i oc od es m sl ho
    split at e
    · rename_i hs
      obtain ⟨l', hl, e⟩ := Option.map_eq_some_iff.mp e
      simp only [Prod.mk.injEq] at e
      obtain ⟨rfl, rfl, rfl, rfl⟩ := e
      have hsl : sl = #[] := Array.eq_empty_of_size_eq_zero hs
      subst hsl
      have key : ∀ (L : List DictEntry) (l : List (Str × Int × Int)), (L.mapM fun (e : DictEntry) => match e.key, e.val with | .str k _, .int i _ => some (k, i, e.hash) | _, _ => none) = some l →
          L.length = l.length ∧ ∀ (i : Nat) (x : Str × Int × Int) (d : DictEntry), l[i]? = some x → L[i]? = some d → (∃ t, d.key = .str x.1 t) ∧ d.hash = x.2.2 ∧ ∃ t, d.val = .int x.2.1 t := by
        intro L
        induction L with
        | nil => intro l h; simp at h; subst h; exact ⟨rfl, fun i x d h1 => by simp at h1⟩
        | cons d0 L ih =>
          intro l h
          rw [List.mapM_cons] at h
          simp only [Option.bind_eq_bind, Option.pure_def] at h
          obtain ⟨x0, hx0, h⟩ := Option.bind_eq_some_iff.mp h
          obtain ⟨l1, hl1, h⟩ := Option.bind_eq_some_iff.mp h
          cases h
          obtain ⟨i1, i2⟩ := ih l1 hl1
          refine ⟨by simp [i1], fun i x d h1 h2 => ?_⟩
          cases i with
          | zero =>
            simp only [List.getElem?_cons_zero, Option.some.injEq] at h1 h2
            subst h1; subst h2
            split at hx0
            · rename_i k t i t' hk hv
              cases hx0
              exact ⟨⟨t, hk⟩, rfl, t', hv⟩
            · cases hx0
          | succ i => exact i2 i x d (by simpa using h1) (by simpa using h2)
      obtain ⟨k1, k2⟩ := key _ _ hl
      exact ⟨es, ho, by rw [← k1]; simp, fun i x d h1 h2 => k2 i x d h1 (by simpa using h2)⟩
    · cases e
  · cases e
theorem cons_of {α : Type} {l : List α} {n : Nat} (h : l.length = n + 1) : ∃ a t, l = a :: t ∧ t.length = n := by
  cases l with
  | nil => cases h
  | cons a t => exact ⟨a, t, rfl, Nat.succ.inj h⟩
theorem cls_of {h hB : Heap} (kB : ∀ b o, b ≠ 124 → h.get? b = some o → hB.get? b = some o) (e : seeC h 76 = some (.type "type", [.ref 76, .type "object"], 75, true, false, false, 6, some (some (.builtin "object.__new__")))) (n : h.isNs 75 = true) : ClsAt hB 76 75 (h.nsMap 75) := by
  unfold seeC at e
  split at e
  · rename_i oc od cd sl ho
    obtain ⟨c1, c2, c3, c4, c5, c6, c7, c8, c9, c10, c11⟩ := cd
    simp only [Option.some.injEq, Prod.mk.injEq] at e
    obtain ⟨rfl, rfl, rfl, rfl, rfl, rfl, e7, e8⟩ := e
    obtain ⟨sl⟩ := sl
    obtain ⟨k0, sl, rfl, g1⟩ := cons_of (show sl.length = 6 from e7)
    obtain ⟨k1, sl, rfl, g2⟩ := cons_of g1
    obtain ⟨k2, sl, rfl, g3⟩ := cons_of g2
    obtain ⟨k3, sl, rfl, g4⟩ := cons_of g3
    obtain ⟨k4, sl, rfl, g5⟩ := cons_of g4
    obtain ⟨k5, sl, rfl, g6⟩ := cons_of g5
    obtain rfl := List.eq_nil_of_length_eq_zero g6
    simp at e8
    subst e8
    exact ⟨⟨c1, c5, c2, c7, c8, c10, od, k0, k1, k2, k3, k5, kB 76 _ (by decide) ho⟩, ns_of kB n (by decide)⟩
  · cases e
theorem cd_of {h hB : Heap} (kB : ∀ b o, b ≠ 124 → h.get? b = some o → hB.get? b = some o) (e : seeCd h 128 = some (.type "code", some (.ref 124), .ref 124, true)) : CodeHd hB 128 124 := by
  unfold seeCd at e
  split at e
  · rename_i oc od vs sl ho
    simp only [Option.some.injEq, Prod.mk.injEq, Bool.and_eq_true] at e
    obtain ⟨rfl, e2, e3, ⟨⟨e4, e5⟩, e6⟩, e7⟩ := e
    have i1 : ∀ v, isI v = true → ∃ i t, v = .int i t := fun v hv => by cases v <;> first | exact ⟨_, _, rfl⟩ | cases hv
    have i2 : ∀ v, isB v = true → ∃ b, v = .bool b := fun v hv => by cases v <;> first | exact ⟨_, rfl⟩ | cases hv
    have i3 : ∀ v, isS v = true → ∃ x t, v = .str x t := fun v hv => by cases v <;> first | exact ⟨_, _, rfl⟩ | cases hv
    obtain ⟨a1, a2, b1⟩ := i1 _ e4
    obtain ⟨a3, b2⟩ := i2 _ e5
    obtain ⟨a4, a5, b3⟩ := i1 _ e6
    obtain ⟨a6, a7, b4⟩ := i3 _ e7
    exact ⟨_, vs, a6, a7, a1, a2, a3, a4, a5, kB 128 _ (by decide) ho, rfl, rfl, e2, e3, b4, b1, b2, b3, by decide⟩
  · cases e

theorem at_i {α β : Type} {l : List α} {f g : α → β} (h : l.map f = l.map g) (i : Nat) (x : α) (hx : l[i]? = some x) : f x = g x := (List.map_inj_left.mp h) x (List.mem_of_getElem? hx)
theorem fn_C {h hB : Heap} (kB : ∀ b o, b ≠ 124 → h.get? b = some o → hB.get? b = some o) {f c : Addr} {st : Stmt} {qual : Str} (e : seeF h f = some (fnV st qual c)) (k : h.codeRecOk (.ref c) qual = true) (hf : f ≠ 124) (hc : c ≠ 124) : IsFnC hB f qual st :=
  let ⟨od, osl, pm, ct, doc, h1, h2⟩ := fn_of kB e k hf hc
  ⟨od, osl, pm, .ref c, ct, doc, h1, h2⟩
theorem asInt_some {o : Option Value} {i : Int} (h : asInt o = some i) : ∃ t, o = some (.int i t) := by
  unfold asInt at h
  split at h
  · rename_i j t; cases h; exact ⟨t, rfl⟩
  · cases h
noncomputable def escAddr : Nat → Addr
  | 0 => 94
  | 1 => 101
  | 2 => 108
  | 3 => 115
  | _ => 122
theorem gAt {w : World} {hB : Heap} {mg mb : Str → Option Value} {sc : Scope} {x : Str} {v : Value} (h1 : (x == ("__debug__" : Str)) = false) (h2 : sc.names.lookup x = some .globalImplicit) (h : mg x = some v ∨ (mg x = none ∧ mb x = some v)) : GlobAt w hB mg mb sc (x, .obj v) := ⟨h1, h2, v, .obj v, h⟩
theorem tok_vr {w : World} {hB : Heap} {ds : Array DictEntry} {n : Nat} (h15 : hB.get? 15 = some { cls := .type "dict", data := .dict ds n }) (hl : ds.size = (tokTab.map fun e => (e.1, e.2, hashStr w e.1)).length)
    (hd : ∀ (i : Nat) (x : Str × Int × Int) (d : DictEntry), (tokTab.map fun e => (e.1, e.2, hashStr w e.1))[i]? = some x → ds[i]? = some d → (∃ t, d.key = .str x.1 t) ∧ d.hash = x.2.2 ∧ ∃ t, d.val = .int x.2.1 t) :
    VR w (fun b => hB.get? b) noρ (.dictS tokMV) (.ref 15) := by
  have get : ∀ (i : Nat) (x : Str × MV), tokMV[i]? = some x → ∃ e : Str × Int, tokTab[i]? = some e ∧ x = (e.1, .int e.2) := fun i x hx => by
    unfold tokMV at hx
    rw [List.getElem?_map] at hx
    obtain ⟨e, h1, h2⟩ := Option.map_eq_some_iff.mp hx
    exact ⟨e, h1, h2.symm⟩
  refine .dictS 15 tokMV ds n h15 (by decide) (by rw [hl]; simp [tokMV]) (fun i x d h1 h2 => ?_) (fun i x d h1 h2 => ?_)
  · obtain ⟨e, he, rfl⟩ := get i x h1
    obtain ⟨k1, k2, _⟩ := hd i (e.1, e.2, hashStr w e.1) d (by rw [List.getElem?_map, he]; rfl) h2
    exact ⟨k1, k2⟩
  · obtain ⟨e, he, rfl⟩ := get i x h1
    obtain ⟨_, _, t, k3⟩ := hd i (e.1, e.2, hashStr w e.1) d (by rw [List.getElem?_map, he]; rfl) h2
    dsimp only
    rw [k3]; exact .int _ t
theorem defs_of {w : World} {s : Shared} {hB : Heap} (y : obsL s = valL w) (kB : ∀ b o, b ≠ 124 → s.heap.get? b = some o → hB.get? b = some o) :
    Defs w hB (s.heap.nsMap mainGlobals) (s.heap.nsMap builtinsNs) 76 75 52 59 66 73 (s.heap.nsMap 75) 148 143 129 160 155 165 31 38 24 136 128 124 escAddr ∧ IsFn hB 170 "law" bLaw ∧ s.heap.get? 124 = some (tabObj #[]) ∧ s.heap.nsMap mainGlobals "law" = some (.ref 170) := by
  simp only [obsL, valL, Prod.mk.injEq] at y
  obtain ⟨y1, y2, y3, y4, y5, y6, y7, y8, y9, y10, y11, y12, y13, y14, y15⟩ := y
  simp only [List.cons.injEq, and_true] at y6 y7
  obtain ⟨n1, n2, n3, n4⟩ := y7
  obtain ⟨i1, i2⟩ := y6
  obtain ⟨t1, i1⟩ := asInt_some i1
  obtain ⟨t2, i2⟩ := asInt_some i2
  obtain ⟨ds, d1, d2, d3⟩ := tab_of y15
  have F := fun (i : Nat) (x : Addr × Str × Stmt) (hx : fnList[i]? = some x) (hf : x.1 ≠ 124) (hc : x.1 - 1 ≠ 124) => fn_C (st := x.2.2) (qual := x.2.1) kB (at_i y9 i x hx) (at_i y10 i x hx) hf hc
  have T : TopF hB (s.heap.nsMap mainGlobals) (s.heap.nsMap builtinsNs) := ⟨ns_of kB n1 (by decide), ns_of kB n2 (by decide), _, ns_of kB n4 (by decide), y8⟩
  have L : LexCls hB 76 75 52 59 66 73 (s.heap.nsMap 75) := by
    refine ⟨cls_of kB y11 n3, fun n hn => ?_, at_i y5 0 _ rfl, at_i y5 1 _ rfl, at_i y5 2 _ rfl, at_i y5 3 _ rfl⟩
    simp only [List.mem_cons, List.not_mem_nil, or_false] at hn
    rcases hn with rfl | rfl | rfl | rfl | rfl | rfl | rfl | rfl
    · exact at_i y5 4 _ rfl
    · exact at_i y5 5 _ rfl
    · exact at_i y5 6 _ rfl
    · exact at_i y5 7 _ rfl
    · exact at_i y5 8 _ rfl
    · exact at_i y5 9 _ rfl
    · exact at_i y5 10 _ rfl
    · exact at_i y5 11 _ rfl
  have hlx : LxFn w hB (s.heap.nsMap mainGlobals) (s.heap.nsMap builtinsNs) 76 129 128 124 := by
    obtain ⟨od, osl, pm, ct, doc, h1, h2⟩ := fn_of (st := bLx) (qual := "_law_lexer") (f := 129) (c := 128) kB (at_i y9 12 _ rfl) (at_i y10 12 _ rfl) (by decide) (by decide)
    refine ⟨⟨_, od, osl, pm, ct, doc, h1⟩, h2, cd_of kB y12, ?_, fun p hp => ?_⟩
    · unfold plainAt0 at y13
      split at y13
      · rename_i oc od' sl ho
        simp only [Option.some.injEq, Prod.mk.injEq] at y13
        obtain ⟨rfl, rfl⟩ := y13
        exact ⟨4, _, at_i y3 18 _ rfl, by decide, by decide, by decide, kB 4 _ (by decide) ho, rfl, rfl, rfl⟩
      · cases y13
    · simp only [List.mem_cons, List.not_mem_nil, or_false] at hp
      rcases hp with rfl | rfl
      · exact gAt (by decide) (by kernel_rfl) (.inr ⟨at_i y3 22 _ rfl, at_i y4 3 _ rfl⟩)
      · exact gAt (by decide) (by kernel_rfl) (.inl (at_i y3 3 _ rfl))
  have h124 : s.heap.get? 124 = some (tabObj #[]) := by
    unfold tab0 at y14
    split at y14
    · rename_i oc od vs sl ho
      simp only [Option.some.injEq, Prod.mk.injEq] at y14
      obtain ⟨rfl, rfl, e3, e4⟩ := y14
      have : sl = #[] := Array.eq_empty_of_size_eq_zero e4
      subst this
      have : vs = #[] := by cases vs; simp at e3; subst e3; rfl
      subst this
      exact ho
    · cases y14
  refine ⟨{ d_T := T, d_L := L, d_fi := F 3 _ rfl (by decide) (by decide), d_fr := F 4 _ rfl (by decide) (by decide), d_fg := F 5 _ rfl (by decide) (by decide), d_fq := F 6 _ rfl (by decide) (by decide), d_gG := fun p hp => ?_, d_lx := hlx, d_rd := (F 17 _ rfl (by decide) (by decide)).fn, d_sy := (F 16 _ rfl (by decide) (by decide)).fn, d_st := (F 18 _ rfl (by decide) (by decide)).fn, d_pg := (F 15 _ rfl (by decide) (by decide)).fn, d_an := (F 14 _ rfl (by decide) (by decide)).fn, d_fn := (F 1 _ rfl (by decide) (by decide)).fn, d_fe := (F 2 _ rfl (by decide) (by decide)).fn, d_ft := (F 0 _ rfl (by decide) (by decide)).fn, d_fw := (F 13 _ rfl (by decide) (by decide)).fn, d_es := ⟨(F 7 _ rfl (by decide) (by decide)).fn, (F 8 _ rfl (by decide) (by decide)).fn, (F 9 _ rfl (by decide) (by decide)).fn, (F 10 _ rfl (by decide) (by decide)).fn, (F 11 _ rfl (by decide) (by decide)).fn⟩, d_gS := fun p hp => ?_, d_gN := fun p hp => ?_, d_gT := fun p hp => ?_, d_gE := fun p hp => ?_, d_gV := fun p hp => ?_, d_gR := fun p hp => ?_, d_gW := fun p hp => ?_, d_gP := fun p hp => ?_, d_gL := fun p hp => ?_ }, (F 19 _ rfl (by decide) (by decide)).fn, h124, at_i y3 16 _ rfl⟩
  · simp only [List.mem_cons, List.not_mem_nil, or_false] at hp
    subst hp
    exact gAt (by decide) (by kernel_rfl) (.inr ⟨at_i y3 19 _ rfl, at_i y4 0 _ rfl⟩)
  · simp only [List.mem_cons, List.not_mem_nil, or_false] at hp
    rcases hp with rfl | rfl
    · exact gAt (by decide) (by kernel_rfl) (.inr ⟨at_i y3 20 _ rfl, at_i y4 1 _ rfl⟩)
    · exact ⟨by decide, by kernel_rfl, .ref 15, tok_vr (kB 15 _ (by decide) d1) d2 d3, .inl (at_i y3 17 _ rfl)⟩
  · simp only [List.mem_cons, List.not_mem_nil, or_false] at hp
    subst hp
    exact ⟨by decide, by kernel_rfl, _, .int _ t1, .inl i1⟩
  · simp only [List.mem_cons, List.not_mem_nil, or_false] at hp
    subst hp
    exact ⟨by decide, by kernel_rfl, _, .int _ t1, .inl i1⟩
  · simp only [List.mem_cons, List.not_mem_nil, or_false] at hp
    subst hp
    exact ⟨by decide, by kernel_rfl, _, .int _ t2, .inl i2⟩
  · simp only [List.mem_cons, List.not_mem_nil, or_false] at hp
    rcases hp with rfl | rfl | rfl | rfl
    · exact ⟨by decide, _, .obj _, .inl (at_i y3 1 _ rfl)⟩
    · exact ⟨by decide, _, .obj _, .inl (at_i y3 2 _ rfl)⟩
    · exact ⟨by decide, _, .obj _, .inl (at_i y3 0 _ rfl)⟩
    · exact ⟨by decide, _, .obj _, .inr ⟨at_i y3 20 _ rfl, at_i y4 1 _ rfl⟩⟩
  · simp only [List.mem_cons, List.not_mem_nil, or_false] at hp
    rcases hp with rfl | rfl
    · exact gAt (by decide) (by kernel_rfl) (.inr ⟨at_i y3 23 _ rfl, at_i y4 4 _ rfl⟩)
    · exact gAt (by decide) (by kernel_rfl) (.inl (at_i y3 13 _ rfl))
  · simp only [List.mem_cons, List.not_mem_nil, or_false] at hp
    rcases hp with rfl | rfl | rfl | rfl | rfl
    · exact gAt (by decide) (by kernel_rfl) (.inl (at_i y3 4 _ rfl))
    · exact gAt (by decide) (by kernel_rfl) (.inl (at_i y3 5 _ rfl))
    · exact gAt (by decide) (by kernel_rfl) (.inl (at_i y3 6 _ rfl))
    · exact gAt (by decide) (by kernel_rfl) (.inl (at_i y3 7 _ rfl))
    · exact gAt (by decide) (by kernel_rfl) (.inl (at_i y3 8 _ rfl))
  · simp only [List.mem_cons, List.not_mem_nil, or_false] at hp
    rcases hp with rfl | rfl | rfl
    · exact gAt (by decide) (by kernel_rfl) (.inr ⟨at_i y3 20 _ rfl, at_i y4 1 _ rfl⟩)
    · exact gAt (by decide) (by kernel_rfl) (.inr ⟨at_i y3 21 _ rfl, at_i y4 2 _ rfl⟩)
    · exact gAt (by decide) (by kernel_rfl) (.inl (at_i y3 10 _ rfl))
  · simp only [List.mem_cons, List.not_mem_nil, or_false] at hp
    rcases hp with rfl | rfl | rfl | rfl | rfl | rfl | rfl | rfl | rfl | rfl
    · exact gAt (by decide) (by kernel_rfl) (.inr ⟨at_i y3 24 _ rfl, at_i y4 5 _ rfl⟩)
    · exact gAt (by decide) (by kernel_rfl) (.inl (at_i y3 12 _ rfl))
    · exact gAt (by decide) (by kernel_rfl) (.inl (at_i y3 11 _ rfl))
    · exact gAt (by decide) (by kernel_rfl) (.inl (at_i y3 9 _ rfl))
    · exact gAt (by decide) (by kernel_rfl) (.inl (at_i y3 14 _ rfl))
    · exact gAt (by decide) (by kernel_rfl) (.inl (at_i y3 13 _ rfl))
    · exact gAt (by decide) (by kernel_rfl) (.inr ⟨at_i y3 20 _ rfl, at_i y4 1 _ rfl⟩)
    · exact gAt (by decide) (by kernel_rfl) (.inl (at_i y3 15 _ rfl))
    · exact gAt (by decide) (by kernel_rfl) (.inr ⟨at_i y3 25 _ rfl, at_i y4 6 _ rfl⟩)
    · exact gAt (by decide) (by kernel_rfl) (.inr ⟨at_i y3 23 _ rfl, at_i y4 4 _ rfl⟩)

theorem ints_vr {w : World} {F : Frz} {ρ : Nat → Option Addr} : ∀ {vs : List Value} {ns : List Int}, IntsAre vs ns → vs.length = (ns.map MV.int).length ∧ ∀ (i : Nat) (x : MV) (v : Value), (ns.map MV.int)[i]? = some x → vs[i]? = some v → VR w F ρ x v
  | _, _, .nil => ⟨rfl, fun i x v h => by simp at h⟩
  | _, _, .cons n t h => by
    obtain ⟨h1, h2⟩ := ints_vr h
    refine ⟨by simp [h1], fun i x v e1 e2 => ?_⟩
    cases i with
    | zero =>
      simp only [List.map_cons, List.getElem?_cons_zero, Option.some.injEq] at e1 e2
      subst e1; subst e2; exact .int n t
    | succ i => exact h2 i x v (by simpa using e1) (by simpa using e2)
theorem walk_law {w : World} {s₀ s₁ : Shared} {a : Addr} {vs : List Value} {ns : List Int} (y : obsL s₀ = valL w) (keep : ∀ b o, s₀.heap.get? b = some o → s₁.heap.get? b = some o) (ha : a = s₀.heap.objs.size)
    (hL : s₁.heap.get? a = some { cls := .type "list", data := .seq vs.toArray }) (hI : IntsAre vs ns) (hn : ns.length ≤ 63) (ht : s₀.toks ≤ s₁.toks) :
    wpAny (model pr w) callerA (call (.ref 170) [.ref a]) (fun v s' => v = .bool true ∧ OldK s₁.heap s'.heap ∧ s'.os = s₁.os ∧ s'.gens = s₁.gens) (fun _ _ => False) s₁ := by
  have kB : ∀ b o, b ≠ 124 → s₀.heap.get? b = some o → (noTab s₁.heap).get? b = some o := fun b o q e => by rw [noTab_ne q]; exact keep b o e
  obtain ⟨D, hf, h124, _⟩ := defs_of (hB := noTab s₁.heap) y kB
  have hcd := D.d_lx.hd
  simp only [obsL, valL, Prod.mk.injEq] at y
  have hsz : a = 171 := ha.trans y.1
  have htk : s₀.toks = 578 := y.2.1
  obtain ⟨hl, hv⟩ := ints_vr (w := w) (F := fun b => (noTab s₁.heap).get? b) (ρ := noρ) hI
  have h124' := keep _ _ h124
  refine wpAny_call (xf_law D hf (ns := ns) (by omega) lawD callerA (fun b => (noTab s₁.heap).get? b) s₁ [.ref a] [124] _ (by decide) (by decide) rfl (by omega) (fun _ _ e => e) (fun b o e => noTab_sub e) ?_ ⟨rfl, h124'⟩ (by simp) (fun b hb => ?_) (fun b hb => ?_) fun mv v h' tk F' e' hP htk' hk hl' hS hF' hnn hvr hr => ?_)
  · refine VRs.cons (.list a _ vs 0 ?_ hl hv) VRs.nil
    show (noTab s₁.heap).get? a = _
    rw [noTab_ne (b := a) (by rw [hsz]; decide)]; exact hL
  · simp at hb; subst hb; exact noTab_at
  · simp at hb; subst hb; exact ⟨_, h124'⟩
  · obtain ⟨rfl, ps', rfl⟩ := hP
    cases hvr
    have h2 : h'.get? 124 = some (tabObj ps') := hr.2
    refine ⟨rfl, ⟨fun b o e => ?_, fun b o e => ?_⟩, rfl, rfl⟩
    · by_cases q : b = 124
      · subst q
        rw [h124'] at e; cases e
        obtain ⟨o, vs', _, _, _, _, _, _, _, c1, c2, c3, c4, _⟩ := hcd
        exact .inr (.inl ⟨⟨128, o, vs', noTab_sub c1, c2, c3, c4⟩, rfl, #[], ps', rfl, by rw [h2]; simp⟩)
      · exact .inl (hk b o (by simpa using q) e)
    · by_cases q : b = 124
      · subst q; exact ⟨_, h2⟩
      · exact ⟨o, hk b o (by simpa using q) e⟩

end Mine
open PySem.W.X
set_option maxHeartbeats 4000000 in
theorem PySem.Challenge.cw_st0028_02_holds : PySem.Challenge.rw_st0028_02.Holds := by
  w_on
  refine holds_law Mine.saidL fun said => ?_
  refine holds_openX (q := Mine.qv) (loose := Mine.looseN) (Xt := Mine.XtL) (XP := XL Mine.qv []) (Yf := Mine.obsL) (Ya := Mine.valL) (N := 4688) Mine.leftL (fun s e => xl_of s (Bool.and_eq_true_iff.mp e).1) XL.keeps (by rfl) (by rfl) (by rfl) (fun s e => recFacts_of (Bool.and_eq_true_iff.mp e).2) (by rfl) (by assumption) (by decide +kernel) ⟨rfl, rfl, rfl, rfl, rfl, by decide +kernel⟩ ?hw ?hc
  case hw => w_witness2
  case hc =>
    intro w s₀ s₁ mg mb G y fa o pm cd doc dV kV ho hd hcd hD hmg hg args vals as L hpre hlay hrd hwl hlo
    have hmg : mg (Str.ofString "law") = some (.ref fa) := hmg
    have hfa : fa = 170 := by
      have h1 := G.T.g.eq_nsMap
      have h2 := (Heap.Ns.keeps (Heap.Ns.of_isNs (h := s₀.heap) (a := mainGlobals) (congrArg (fun x : Mine.ObsT => x.2.2.2.2.2.2.1.getD 0 false) y)) L.keeps).eq_nsMap
      have h3 := (Mine.defs_of (hB := Mine.noTab s₁.heap) y (fun b o q e => by rw [Mine.noTab_ne q]; exact L.keeps b o e)).2.2.2
      rw [h2, ← h1] at h3
      have h3 : mg (Str.ofString "law") = some (.ref 170) := h3
      rw [hmg] at h3
      cases h3; rfl
    subst hfa
    clear G hD hd ho hcd hmg
    wrow_args hpre hlay hrd hwl hlo
    obtain ⟨hat, hsz⟩ := script_at L
    refine wpAny_mono (Mine.walk_law y L.keeps hat (script_obj L (by assumption)) (by assumption) (by omega) (script_toks L rfl)) (fun v s' h => ?_) (fun _ _ h => h.elim)
    obtain ⟨rfl, h1, h2, h3⟩ := h
    exact ⟨.inl ⟨.bool true, _, [], rfl, raisesW_false (by wrow_none_raised), .bool true, (by first | rfl | wrow_post), fun _ => ⟨.nil, fun a ha => by cases ha⟩⟩, h1, h2, .of_eq (h3.trans hg)⟩
