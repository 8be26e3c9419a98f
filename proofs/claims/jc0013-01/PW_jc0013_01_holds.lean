import PyProof.Rows.All
import Wide.All
import OpenK.AllK
import Wide.FinOn
import OpenK.XSeg
import Lean
import PySem.Challenge.RW_jc0013_01
set_option Elab.async false
set_option maxRecDepth 100000
set_option maxHeartbeats 1000000
set_option linter.unusedVariables false
set_option linter.unusedSimpArgs false
set_option linter.unusedSectionVars false
set_option genSizeOf false
open PySem PySem.W PyProof.Rows
namespace J
/-- the address of the one code table that grows -/
noncomputable abbrev TA : Addr := 80
/-- the class of a thing -/
noncomputable abbrev CA : Addr := 102
noncomputable def mainBody : List Stmt := PySem.Challenge.pw_jc0013_01.main.body
noncomputable abbrev pos0 : Pos := ⟨0, 0, 0, 0⟩
/-- a statement's parts: of a def, of an if, of a for -/
noncomputable def prt : Stmt → (Arguments × Scope × Pos) × (Expr × Expr) × (List Stmt × List Stmt)
  | .FunctionDef _ p b _ _ _ sc _ _ pos => ((p, sc, pos), (.Constant .none 0 pos0, .Constant .none 0 pos0), (b, []))
  | .If t b e pos => ((⟨[], [], none, [], [], none, []⟩, { kind := .function, names := [], isGenerator := false, isCoroutine := false, more := [] }, pos), (t, .Constant .none 0 pos0), (b, e))
  | .For t i b e pos => ((⟨[], [], none, [], [], none, []⟩, { kind := .function, names := [], isGenerator := false, isCoroutine := false, more := [] }, pos), (t, i), (b, e))
  | _ => ((⟨[], [], none, [], [], none, []⟩, { kind := .function, names := [], isGenerator := false, isCoroutine := false, more := [] }, pos0), (.Constant .none 0 pos0, .Constant .none 0 pos0), ([], []))
noncomputable def parOf (s : Stmt) : Arguments := (prt s).1.1
noncomputable def scopeOf (s : Stmt) : Scope := (prt s).1.2.1
noncomputable def posOf (s : Stmt) : Pos := (prt s).1.2.2
noncomputable def tgtOf (s : Stmt) : Expr := (prt s).2.1.1
noncomputable def itrOf (s : Stmt) : Expr := (prt s).2.1.2
noncomputable def bodyOf (s : Stmt) : List Stmt := (prt s).2.2.1
noncomputable def elsOf (s : Stmt) : List Stmt := (prt s).2.2.2
noncomputable def at_ (b : List Stmt) (i : Nat) : Stmt := b.getD i (.Pass pos0)
noncomputable def nth (i : Nat) : Stmt := at_ mainBody i
noncomputable def stm (i j : Nat) : Stmt := at_ (bodyOf (nth i)) j
noncomputable def c13 : UInt64 := 0x3fd5555555555555
noncomputable def c16 : UInt64 := 0x3fc5555555555555
noncomputable def c23 : UInt64 := 0x3fe5555555555555
noncomputable abbrev Ent := Nat × Str × Addr × List Str
noncomputable def fnL : List Ent := [(3, "_quote_periods", 43, ["bindata"]), (8, "rgb_to_hls", 50, ["r", "g", "b"]), (9, "hls_to_rgb", 57, ["h", "l", "s"]), (10, "_v", 64, ["m1", "m2", "hue"]), (13, "_strip_quoted_realnames", 78, ["addr"]), (18, "_law_cells", 113, ["script"]), (19, "_law_thing", 120, ["name"]), (20, "_law_names", 127, ["number"]),
  (21, "_law_light", 132, ["place", "kind"]), (22, "_law_ballot", 137, ["light", "lights"]), (23, "_law_heard", 142, ["ballot", "left", "names"]), (24, "_law_mail", 147, ["lists"]), (25, "_law_left", 152, ["ballots", "names", "digits"]), (26, "_law_duels", 157, ["ballots", "names"]), (27, "law", 162, ["script"])]
noncomputable def gloL : List (Str × Value) := [("len", .builtin "len"), ("abs", .builtin "abs"), ("round", .builtin "round"), ("max", .builtin "max"), ("min", .builtin "min"), ("sum", .builtin "sum"), ("sorted", .builtin "sorted"), ("isinstance", .builtin "isinstance"), ("str", .type "str"), ("slice", .type "slice"),
  ("range", .type "range"), ("zip", .type "zip"), ("list", .type "list"), ("enumerate", .type "enumerate")]
/-- a part of the heap, read -/
noncomputable def kns (K : Frag) (a : Addr) (x : Str) : Option Value := match K.lookup a with
  | some o => (match o.data with
    | .dict es _ => nsFind es x
    | _ => none)
  | none => none
noncomputable def kisNs (K : Frag) (a : Addr) : Bool := match K.lookup a with
  | some o => (match o.data with
    | .dict es _ => es.all fun e => match e.key with
      | .str _ _ => true
      | _ => false
    | _ => false)
  | none => false
noncomputable def fdOf (K : Frag) (a : Addr) : Option FuncData := match K.lookup a with
  | some o => (match o.data with
    | .func fd => some fd
    | _ => none)
  | none => none
noncomputable def cdAt (K : Frag) (c : Addr) : Option Str := match K.lookup c with
  | some o => (match o.data with
    | .fields vs => (match vs[1]? with
      | some (Value.str q _) => some q
      | _ => none)
    | _ => none)
  | none => none
noncomputable def cdOf (K : Frag) (v : Value) : Option Str := match v with
  | .ref c => bif c == TA then none else cdAt K c
  | _ => none
noncomputable abbrev FdT := (Arguments × FuncBody × Scope) × (Addr × List (Str × Addr) × Value) × (Value × Addr × Bool)
noncomputable def fdT (K : Frag) (fd : FuncData) : FdT := ((fd.params, fd.body, fd.scope), (fd.globals, fd.closure, fd.defaults), (fd.kwdefaults, fd.builtins, cdOf K fd.code == some fd.qualname))
noncomputable def wantT (st : Stmt) : FdT := ((parOf st, .stmts (bodyOf st), scopeOf st), (mainGlobals, [], .none), (.none, builtinsNs, true))
noncomputable def iniD : Stmt := match nth 16 with
  | .ClassDef _ _ _ b _ _ _ _ _ _ _ => b.getD 1 (.Pass ⟨0, 0, 0, 0⟩)
  | _ => .Pass ⟨0, 0, 0, 0⟩
noncomputable def allE : List (Stmt × Addr × List Str × Bool) := (iniD, 99, ["self", "root"], false) :: (nth 15, 85, ["tag"], false) :: (nth 12, 71, ["addr"], true) :: fnL.map fun t => (nth t.1, t.2.2.1, t.2.2.2, false)
noncomputable def refL : List (Str × Addr) := ("_prepare_tag", 85) :: ("_iter_escaped_chars", 71) :: ("_twin_re_1", 36) :: ("_SelectorContext", 102) :: ("__builtins__", 4) :: fnL.map fun t => (t.2.1, t.2.2.1)
/-- what is read off the program's heap -/
structure KHead (K : Frag) : Prop where
  n3 : kisNs K mainGlobals = true
  n101 : kisNs K 101 = true
  glo : gloL.map (fun p => kns K mainGlobals p.1) = gloL.map fun _ => none
  refs : refL.map (fun p => kns K mainGlobals p.1) = refL.map fun p => some (.ref p.2)
  c13' : ∃ t, kns K mainGlobals "ONE_THIRD" = some (.float c13 t)
  c16' : ∃ t, kns K mainGlobals "ONE_SIXTH" = some (.float c16 t)
  c23' : ∃ t, kns K mainGlobals "TWO_THIRD" = some (.float c23 t)
  fns : allE.map (fun t => (fdOf K t.2.1).map (fdT K)) = allE.map fun t => some (wantT t.1)
  ini : ∃ o, K.lookup 99 = some o ∧ o.cls = .type "function"
  cls : ∃ nm q bs sn sub col dd k0 k1 k2 k3 k5, K.lookup CA = some (excClassObj nm q CA 101 bs [.type "object"] true sn sub false col dd k0 k1 k2 k3 k5 "object.__new__")
  m1 : kns K 101 "__init__" = some (.ref 99)
  ms : (["__getattribute__", "__setattr__", "tag", "root"] : List Str).map (kns K 101) = [none, none, none, none]
  pat : ∃ src t1 t2, K.lookup 36 = some { cls := .type "re.Pattern", data := .fields #[src, .int 8 t1, .int 0 t2, .none, .none, .ref 35, .int 1 0] }
  code : K.lookup 35 = some { cls := .type "tuple", data := .seq #[.int 14 0, .int 4 0, .int 0 0, .int 1 0, .int 1 0, .int 6 0, .int 1 0, .int 16 0, .int 46 0, .int 1 0] }
  prep : (fdOf K 85).map (fun fd => (fd.code, fd.qualname)) = some ((Value.ref 84, ("_prepare_tag" : Str)))
  c84 : ∃ o vs file tf flags tg inF text tt, K.lookup 84 = some o ∧ o.cls = .type "code" ∧ o.data = .fields vs ∧ vs[11]? = some (.ref TA) ∧ vs.getD 11 .none = .ref TA ∧ vs.getD 18 .none = .str file tf ∧
    vs.getD 7 .none = .int flags tg ∧ vs.getD 9 .none = .bool inF ∧ vs.getD 10 .none = .int text tt
/-- what the law's call is to do, on such a heap -/
noncomputable def LawAt : Prop := ∀ {prog : Program} {w : World} {cl : Str → Option Addr} {mean : ExcName → Option Value} {s : Shared} {K : Frag} {fa : Addr} {args : List WData} {vals : List Value} {as : List Addr} {mg mb : Str → Option Value}
    (_ : K.In s.heap) (_ : KHead K) (_ : s.heap.get? TA = some (tabObj #[])) (_ : s.gens = #[]) (_ : s.heap.Ns mainGlobals mg) (_ : s.heap.Ns builtinsNs mb) (_ : s.heap.NoLimit) (_ : ∀ x : Str, x ≠ "__name__" → mb x = bootBuiltins x)
    (_ : ∃ bm ob, mg "__builtins__" = some (.ref bm) ∧ bm ≠ builtinsNs ∧ s.heap.get? bm = some ob ∧ ob.cls = .type "module" ∧ ob.dict = some builtinsNs ∧ ob.data = .plain) (_ : fa = 162)
    (_ : PySem.Challenge.rw_jc0013_01.row.claim.pre args = true) (_ : WData.layableAll args = true) (_ : ReadsAllW PySem.Challenge.rw_jc0013_01.row.records cl s.heap vals args as) (_ : WellAll w.params s.heap vals args) (_ : ∀ (a : Addr), a ∈ as → (a == sysModules) = false),
    wpAny (model prog w) callerA ((fun f vs => call f vs) (Value.ref fa) vals) (fun v s' => GoodWG PySem.Challenge.rw_jc0013_01.row.claim cl mean args s (.ok (.ret v)) s') (fun e s' => GoodWG PySem.Challenge.rw_jc0013_01.row.claim cl mean args s (.error e) s') s
local macro_rules | `(tactic| walk_at "j khead") => `(tactic| first
  | kernel_rfl
  | (exact ⟨_, by with_unfolding_all rfl⟩)
  | (exact ⟨_, rfl, rfl⟩)
  | (exact ⟨_, _, _, rfl⟩)
  | (exact ⟨_, _, _, _, _, _, _, _, _, _, _, _, rfl⟩)
  | (exact ⟨_, _, _, _, _, _, _, _, _, rfl, rfl, rfl, rfl, rfl, rfl, rfl, rfl, rfl⟩))
theorem ws : PySem.Challenge.rw_jc0013_01.wellSaid = true := by
  unfold OpenLaw.wellSaid OpenRow.wellSaid OpenRow.partSaid looksOpen
  repeat' with_reducible refine look_both ?_ ?_
  all_goals decide +kernel
theorem kns_of {K : Frag} {h : Heap} {a : Addr} (KX : K.In h) (hn : kisNs K a = true) : h.Ns a (kns K a) := by
  unfold kisNs at hn
  split at hn
  · rename_i o ho
    split at hn
    · rename_i es n hd
      refine ⟨o, es, n, KX a o ho, hd, fun e he => ?_, fun x => ?_⟩
      · have := Array.all_eq_true_iff_forall_mem.mp hn e he
        split at this
        · rename_i x t hk; exact ⟨x, t, hk⟩
        · cases this
      · unfold kns
        rw [ho]
        simp only [hd]
    · cases hn
  · cases hn
theorem kns_eq {K : Frag} {h : Heap} {a : Addr} {m : Str → Option Value} (KX : K.In h) (hn : kisNs K a = true) (hm : h.Ns a m) : m = kns K a :=
  (hm.eq_nsMap).trans (kns_of KX hn).eq_nsMap.symm
noncomputable def viewQ : Program := { PySem.Challenge.rw_jc0013_01.row.toRowW.1 with main := { PySem.Challenge.rw_jc0013_01.row.toRowW.1.main with body := [nth 0, nth 2, nth 3, nth 5, nth 6, nth 7, nth 8, nth 9, nth 10, nth 12, nth 13, nth 15, nth 16, nth 18, nth 19, nth 20, nth 21, nth 22, nth 23, nth 24, nth 25, nth 26, nth 27] } }
noncomputable def looseL : List Str := [Str.ofString "_twin_re_1", Str.ofString "ONE_THIRD", Str.ofString "ONE_SIXTH", Str.ofString "TWO_THIRD", Str.ofString "_SelectorContext"]
noncomputable def lvL : List (Str × WData) := [(Str.ofString "ONE_THIRD", WData.float 4599676419421066581), (Str.ofString "ONE_SIXTH", WData.float 4595172819793696085), (Str.ofString "TWO_THIRD", WData.float 4604180019048437077)]
noncomputable def adL : List Addr := [2, 3, 35, 36, 37, 39, 40, 42, 43, 44, 46, 47, 49, 50, 51, 53, 54, 56, 57, 58, 60, 61, 63, 64, 65, 67, 68, 70, 71, 72, 74, 75, 77, 78, 79, 81, 82, 84, 85, 93, 95, 96, 98, 99, 100, 101, 102, 103, 104, 107, 109, 110, 112, 113, 114, 116, 117, 119, 120, 121, 123, 124, 126, 127, 128, 131, 132, 133, 136, 137, 138, 141, 142, 143, 146, 147, 148, 151, 152, 153, 156, 157, 158, 161, 162]
noncomputable def heapK : Params → Frag := fun P => [(2, { cls := Value.none, data := Data.dict #[{ hash := PyData.keyHash P (Str.ofString "\x69mport.loaded._sre"), key := Value.str (Str.ofString "\x69mport.loaded._sre") 183, val := Value.bool true }, { hash := PyData.keyHash P (Str.ofString "class._frozen_importlib.BuiltinImporter"), key := Value.str (Str.ofString "class._frozen_importlib.BuiltinImporter") 185, val := Value.ref 14 }, { hash := PyData.keyHash P (Str.ofString "watched.\x69mport"), key := Value.str (Str.ofString "watched.\x69mport") 206, val := Value.ref 18 }, { hash := PyData.keyHash P (Str.ofString "class._frozen_importlib.ModuleSpec"), key := Value.str (Str.ofString "class._frozen_importlib.ModuleSpec") 216, val := Value.ref 22 }, { hash := PyData.keyHash P (Str.ofString "sys.modules.booked-epoch"), key := Value.str (Str.ofString "sys.modules.booked-epoch") 245, val := Value.int 3 0 }, { hash := PyData.keyHash P (Str.ofString "\x69mport.later-laid._sre"), key := Value.str (Str.ofString "\x69mport.later-laid._sre") 270, val := Value.bool true }, { hash := PyData.keyHash P (Str.ofString "watched.library"), key := Value.str (Str.ofString "watched.library") 272, val := Value.ref 27 }, { hash := PyData.keyHash P (Str.ofString "watched.library-objects"), key := Value.str (Str.ofString "watched.library-objects") 0, val := Value.str (Str.ofString "\x0c") 0 }, { hash := PyData.keyHash P (Str.ofString "watched.library-deep._sre"), key := Value.str (Str.ofString "watched.library-deep._sre") 273, val := Value.str (Str.ofString "\x04\x00\x00\x0b\x04\x00\x00\x0b\x04\x00\x00\x03\x04\x00\x00\x0b\x08\x04dict\x02") 0 }] 9 }), (3, { cls := Value.type "dict", data := Data.dict #[{ hash := PyData.keyHash P (Str.ofString "__name__"), key := Value.str (Str.ofString "__name__") 165, val := Value.str (Str.ofString "law_jc0013_01") 431 }, { hash := PyData.keyHash P (Str.ofString "__doc__"), key := Value.str (Str.ofString "__doc__") 166, val := Value.none }, { hash := PyData.keyHash P (Str.ofString "__package__"), key := Value.str (Str.ofString "__package__") 167, val := Value.none }, { hash := PyData.keyHash P (Str.ofString "__loader__"), key := Value.str (Str.ofString "__loader__") 168, val := Value.builtin "__main__.__loader__#opaque" }, { hash := PyData.keyHash P (Str.ofString "__spec__"), key := Value.str (Str.ofString "__spec__") 169, val := Value.none }, { hash := PyData.keyHash P (Str.ofString "__annotations__"), key := Value.str (Str.ofString "__annotations__") 170, val := Value.ref 6 }, { hash := PyData.keyHash P (Str.ofString "__builtins__"), key := Value.str (Str.ofString "__builtins__") 171, val := Value.ref 4 }, { hash := PyData.keyHash P (Str.ofString "__file__"), key := Value.str (Str.ofString "__file__") 173, val := Value.str (Str.ofString "/claim/cut.py") 172 }, { hash := PyData.keyHash P (Str.ofString "__cached__"), key := Value.str (Str.ofString "__cached__") 174, val := Value.none }, { hash := PyData.keyHash P (Str.ofString "_sre"), key := Value.str (Str.ofString "_sre") 275, val := Value.ref 12 }, { hash := PyData.keyHash P (Str.ofString "_twin_re_1"), key := Value.str (Str.ofString "_twin_re_1") 299, val := Value.ref 36 }, { hash := PyData.keyHash P (Str.ofString "_quote_periods"), key := Value.str (Str.ofString "_quote_periods") 306, val := Value.ref 43 }, { hash := PyData.keyHash P (Str.ofString "ONE_THIRD"), key := Value.str (Str.ofString "ONE_THIRD") 312, val := Value.float 4599676419421066581 311 }, { hash := PyData.keyHash P (Str.ofString "ONE_SIXTH"), key := Value.str (Str.ofString "ONE_SIXTH") 316, val := Value.float 4595172819793696085 315 }, { hash := PyData.keyHash P (Str.ofString "TWO_THIRD"), key := Value.str (Str.ofString "TWO_THIRD") 320, val := Value.float 4604180019048437077 319 }, { hash := PyData.keyHash P (Str.ofString "rgb_to_hls"), key := Value.str (Str.ofString "rgb_to_hls") 339, val := Value.ref 50 }, { hash := PyData.keyHash P (Str.ofString "hls_to_rgb"), key := Value.str (Str.ofString "hls_to_rgb") 350, val := Value.ref 57 }, { hash := PyData.keyHash P (Str.ofString "_v"), key := Value.str (Str.ofString "_v") 359, val := Value.ref 64 }, { hash := PyData.keyHash P (Str.ofString "_iter_escaped_chars"), key := Value.str (Str.ofString "_iter_escaped_chars") 371, val := Value.ref 71 }, { hash := PyData.keyHash P (Str.ofString "_strip_quoted_realnames"), key := Value.str (Str.ofString "_strip_quoted_realnames") 383, val := Value.ref 78 }, { hash := PyData.keyHash P (Str.ofString "_prepare_tag"), key := Value.str (Str.ofString "_prepare_tag") 400, val := Value.ref 85 }, { hash := PyData.keyHash P (Str.ofString "_SelectorContext"), key := Value.str (Str.ofString "_SelectorContext") 430, val := Value.ref 102 }, { hash := PyData.keyHash P (Str.ofString "_law_cells"), key := Value.str (Str.ofString "_law_cells") 441, val := Value.ref 113 }, { hash := PyData.keyHash P (Str.ofString "_law_thing"), key := Value.str (Str.ofString "_law_thing") 449, val := Value.ref 120 }, { hash := PyData.keyHash P (Str.ofString "_law_names"), key := Value.str (Str.ofString "_law_names") 459, val := Value.ref 127 }, { hash := PyData.keyHash P (Str.ofString "_law_light"), key := Value.str (Str.ofString "_law_light") 465, val := Value.ref 132 }, { hash := PyData.keyHash P (Str.ofString "_law_ballot"), key := Value.str (Str.ofString "_law_ballot") 471, val := Value.ref 137 }, { hash := PyData.keyHash P (Str.ofString "_law_heard"), key := Value.str (Str.ofString "_law_heard") 477, val := Value.ref 142 }, { hash := PyData.keyHash P (Str.ofString "_law_mail"), key := Value.str (Str.ofString "_law_mail") 483, val := Value.ref 147 }, { hash := PyData.keyHash P (Str.ofString "_law_left"), key := Value.str (Str.ofString "_law_left") 489, val := Value.ref 152 }, { hash := PyData.keyHash P (Str.ofString "_law_duels"), key := Value.str (Str.ofString "_law_duels") 495, val := Value.ref 157 }, { hash := PyData.keyHash P (Str.ofString "law"), key := Value.str (Str.ofString "law") 501, val := Value.ref 162 }] 32 }), (35, { cls := Value.type "tuple", data := Data.seq #[Value.int 14 0, Value.int 4 0, Value.int 0 0, Value.int 1 0, Value.int 1 0, Value.int 6 0, Value.int 1 0, Value.int 16 0, Value.int 46 0, Value.int 1 0] }), (36, { cls := Value.type "re.Pattern", data := Data.fields #[Value.bytes #[40, 63, 109, 41, 94, 92, 46] 285, Value.int 8 298, Value.int 0 0, Value.none, Value.none, Value.ref 35, Value.int 1 0] }), (37, { cls := Value.type "tuple", data := Data.seq #[] }), (39, { cls := Value.type "tuple", data := Data.seq #[Value.str (Str.ofString "bindata") 303] }), (40, { cls := Value.type "tuple", data := Data.seq #[] }), (42, { cls := Value.type "code", data := Data.fields #[Value.str (Str.ofString "_quote_periods") 300, Value.str (Str.ofString "_quote_periods") 301, Value.str (Str.ofString "/claim/cut.py") 302, Value.int 4 0, Value.int 1 0, Value.int 0 0, Value.int 0 0, Value.int 3 0, Value.ref 37, Value.bool true, Value.int 276 0, Value.ref 38, Value.none, Value.ref 39, Value.ref 40, Value.ref 41, Value.int 304 0, Value.int 4 0, Value.str (Str.ofString "/claim/cut.py") 305] }), (43, { cls := Value.type "function", data := Data.func { name := Str.ofString "_quote_periods", qualname := Str.ofString "_quote_periods", params := parOf (nth 3), body := FuncBody.stmts (bodyOf (nth 3)), scope := scopeOf (nth 3), globals := 3, closure := [], defaults := Value.none, kwdefaults := Value.none, pyModule := Value.str (Str.ofString "cpy313.smtplib") 282, code := Value.ref 42 } }), (44, { cls := Value.type "tuple", data := Data.seq #[] }), (46, { cls := Value.type "tuple", data := Data.seq #[Value.str (Str.ofString "r") 324, Value.str (Str.ofString "g") 325, Value.str (Str.ofString "b") 326, Value.str (Str.ofString "maxc") 327, Value.str (Str.ofString "minc") 328, Value.str (Str.ofString "sumc") 329, Value.str (Str.ofString "rangec") 330, Value.str (Str.ofString "l") 331, Value.str (Str.ofString "s") 332, Value.str (Str.ofString "rc") 333, Value.str (Str.ofString "gc") 334, Value.str (Str.ofString "bc") 335, Value.str (Str.ofString "h") 336] }), (47, { cls := Value.type "tuple", data := Data.seq #[] }), (49, { cls := Value.type "code", data := Data.fields #[Value.str (Str.ofString "rgb_to_hls") 321, Value.str (Str.ofString "rgb_to_hls") 322, Value.str (Str.ofString "/claim/cut.py") 323, Value.int 10 0, Value.int 3 0, Value.int 0 0, Value.int 0 0, Value.int 3 0, Value.ref 44, Value.bool true, Value.int 276 0, Value.ref 45, Value.none, Value.ref 46, Value.ref 47, Value.ref 48, Value.int 337 0, Value.int 10 0, Value.str (Str.ofString "/claim/cut.py") 338] }), (50, { cls := Value.type "function", data := Data.func { name := Str.ofString "rgb_to_hls", qualname := Str.ofString "rgb_to_hls", params := parOf (nth 8), body := FuncBody.stmts (bodyOf (nth 8)), scope := scopeOf (nth 8), globals := 3, closure := [], defaults := Value.none, kwdefaults := Value.none, pyModule := Value.str (Str.ofString "cpy313.colorsys") 307, code := Value.ref 49 } }), (51, { cls := Value.type "tuple", data := Data.seq #[] }), (53, { cls := Value.type "tuple", data := Data.seq #[Value.str (Str.ofString "h") 343, Value.str (Str.ofString "l") 344, Value.str (Str.ofString "s") 345, Value.str (Str.ofString "m2") 346, Value.str (Str.ofString "m1") 347] }), (54, { cls := Value.type "tuple", data := Data.seq #[] }), (56, { cls := Value.type "code", data := Data.fields #[Value.str (Str.ofString "hls_to_rgb") 340, Value.str (Str.ofString "hls_to_rgb") 341, Value.str (Str.ofString "/claim/cut.py") 342, Value.int 33 0, Value.int 3 0, Value.int 0 0, Value.int 0 0, Value.int 3 0, Value.ref 51, Value.bool true, Value.int 276 0, Value.ref 52, Value.none, Value.ref 53, Value.ref 54, Value.ref 55, Value.int 348 0, Value.int 33 0, Value.str (Str.ofString "/claim/cut.py") 349] }), (57, { cls := Value.type "function", data := Data.func { name := Str.ofString "hls_to_rgb", qualname := Str.ofString "hls_to_rgb", params := parOf (nth 9), body := FuncBody.stmts (bodyOf (nth 9)), scope := scopeOf (nth 9), globals := 3, closure := [], defaults := Value.none, kwdefaults := Value.none, pyModule := Value.str (Str.ofString "cpy313.colorsys") 307, code := Value.ref 56 } }), (58, { cls := Value.type "tuple", data := Data.seq #[] }), (60, { cls := Value.type "tuple", data := Data.seq #[Value.str (Str.ofString "m1") 354, Value.str (Str.ofString "m2") 355, Value.str (Str.ofString "hue") 356] }), (61, { cls := Value.type "tuple", data := Data.seq #[] }), (63, { cls := Value.type "code", data := Data.fields #[Value.str (Str.ofString "_v") 351, Value.str (Str.ofString "_v") 352, Value.str (Str.ofString "/claim/cut.py") 353, Value.int 42 0, Value.int 3 0, Value.int 0 0, Value.int 0 0, Value.int 3 0, Value.ref 58, Value.bool true, Value.int 276 0, Value.ref 59, Value.none, Value.ref 60, Value.ref 61, Value.ref 62, Value.int 357 0, Value.int 42 0, Value.str (Str.ofString "/claim/cut.py") 358] }), (64, { cls := Value.type "function", data := Data.func { name := Str.ofString "_v", qualname := Str.ofString "_v", params := parOf (nth 10), body := FuncBody.stmts (bodyOf (nth 10)), scope := scopeOf (nth 10), globals := 3, closure := [], defaults := Value.none, kwdefaults := Value.none, pyModule := Value.str (Str.ofString "cpy313.colorsys") 307, code := Value.ref 63 } }), (65, { cls := Value.type "tuple", data := Data.seq #[] }), (67, { cls := Value.type "tuple", data := Data.seq #[Value.str (Str.ofString "addr") 365, Value.str (Str.ofString "pos") 366, Value.str (Str.ofString "escape") 367, Value.str (Str.ofString "ch") 368] }), (68, { cls := Value.type "tuple", data := Data.seq #[] }), (70, { cls := Value.type "code", data := Data.fields #[Value.str (Str.ofString "_iter_escaped_chars") 362, Value.str (Str.ofString "_iter_escaped_chars") 363, Value.str (Str.ofString "/claim/cut.py") 364, Value.int 52 0, Value.int 1 0, Value.int 0 0, Value.int 0 0, Value.int 35 0, Value.ref 65, Value.bool true, Value.int 276 0, Value.ref 66, Value.none, Value.ref 67, Value.ref 68, Value.ref 69, Value.int 369 0, Value.int 52 0, Value.str (Str.ofString "/claim/cut.py") 370] }), (71, { cls := Value.type "function", data := Data.func { name := Str.ofString "_iter_escaped_chars", qualname := Str.ofString "_iter_escaped_chars", params := parOf (nth 12), body := FuncBody.stmts (bodyOf (nth 12)), scope := scopeOf (nth 12), globals := 3, closure := [], defaults := Value.none, kwdefaults := Value.none, pyModule := Value.str (Str.ofString "cpy313.email.utils") 360, code := Value.ref 70 } }), (72, { cls := Value.type "tuple", data := Data.seq #[] }), (74, { cls := Value.type "tuple", data := Data.seq #[Value.str (Str.ofString "addr") 375, Value.str (Str.ofString "start") 376, Value.str (Str.ofString "open_pos") 377, Value.str (Str.ofString "result") 378, Value.str (Str.ofString "pos") 379, Value.str (Str.ofString "ch") 380] }), (75, { cls := Value.type "tuple", data := Data.seq #[] }), (77, { cls := Value.type "code", data := Data.fields #[Value.str (Str.ofString "_strip_quoted_realnames") 372, Value.str (Str.ofString "_strip_quoted_realnames") 373, Value.str (Str.ofString "/claim/cut.py") 374, Value.int 65 0, Value.int 1 0, Value.int 0 0, Value.int 0 0, Value.int 3 0, Value.ref 72, Value.bool true, Value.int 276 0, Value.ref 73, Value.none, Value.ref 74, Value.ref 75, Value.ref 76, Value.int 381 0, Value.int 65 0, Value.str (Str.ofString "/claim/cut.py") 382] }), (78, { cls := Value.type "function", data := Data.func { name := Str.ofString "_strip_quoted_realnames", qualname := Str.ofString "_strip_quoted_realnames", params := parOf (nth 13), body := FuncBody.stmts (bodyOf (nth 13)), scope := scopeOf (nth 13), globals := 3, closure := [], defaults := Value.none, kwdefaults := Value.none, pyModule := Value.str (Str.ofString "cpy313.email.utils") 360, code := Value.ref 77 } }), (79, { cls := Value.type "tuple", data := Data.seq #[] }), (81, { cls := Value.type "tuple", data := Data.seq #[Value.str (Str.ofString "tag") 389, Value.str (Str.ofString "select") 390] }), (82, { cls := Value.type "tuple", data := Data.seq #[Value.str (Str.ofString "tag") 391, Value.str (Str.ofString "_isinstance") 392, Value.str (Str.ofString "_str") 393, Value.str (Str.ofString "no_ns") 394, Value.str (Str.ofString "ns") 395, Value.str (Str.ofString "ns_only") 396, Value.str (Str.ofString "suffix") 397] }), (84, { cls := Value.type "code", data := Data.fields #[Value.str (Str.ofString "_prepare_tag") 386, Value.str (Str.ofString "_prepare_tag") 387, Value.str (Str.ofString "/claim/cut.py") 388, Value.int 84 0, Value.int 1 0, Value.int 0 0, Value.int 0 0, Value.int 3 0, Value.ref 79, Value.bool true, Value.int 276 0, Value.ref 80, Value.none, Value.ref 81, Value.ref 82, Value.ref 83, Value.int 398 0, Value.int 84 0, Value.str (Str.ofString "/claim/cut.py") 399] }), (85, { cls := Value.type "function", data := Data.func { name := Str.ofString "_prepare_tag", qualname := Str.ofString "_prepare_tag", params := parOf (nth 15), body := FuncBody.stmts (bodyOf (nth 15)), scope := scopeOf (nth 15), globals := 3, closure := [], defaults := Value.none, kwdefaults := Value.none, pyModule := Value.str (Str.ofString "cpy313.xml.etree.ElementPath") 384, code := Value.ref 84 } }), (93, { cls := Value.type "tuple", data := Data.seq #[] }), (95, { cls := Value.type "tuple", data := Data.seq #[Value.str (Str.ofString "self") 417, Value.str (Str.ofString "root") 418] }), (96, { cls := Value.type "tuple", data := Data.seq #[] }), (98, { cls := Value.type "code", data := Data.fields #[Value.str (Str.ofString "__init__") 414, Value.str (Str.ofString "_SelectorContext.__init__") 415, Value.str (Str.ofString "/claim/cut.py") 416, Value.int 124 0, Value.int 2 0, Value.int 0 0, Value.int 0 0, Value.int 3 0, Value.ref 93, Value.bool true, Value.int 276 0, Value.ref 94, Value.none, Value.ref 95, Value.ref 96, Value.ref 97, Value.int 419 0, Value.int 124 0, Value.str (Str.ofString "/claim/cut.py") 420] }), (99, { cls := Value.type "function", data := Data.func { name := Str.ofString "__init__", qualname := Str.ofString "_SelectorContext.__init__", params := parOf iniD, body := FuncBody.stmts (bodyOf iniD), scope := scopeOf iniD, globals := 3, closure := [], defaults := Value.none, kwdefaults := Value.none, pyModule := Value.str (Str.ofString "cpy313.xml.etree.ElementPath") 384, code := Value.ref 98 } }), (100, { cls := Value.type "tuple", data := Data.seq #[Value.str (Str.ofString "root") 422] }), (101, { cls := Value.type "dict", data := Data.dict #[{ hash := PyData.keyHash P (Str.ofString "__module__"), key := Value.str (Str.ofString "__module__") 408, val := Value.str (Str.ofString "cpy313.xml.etree.ElementPath") 384 }, { hash := PyData.keyHash P (Str.ofString "__firstlineno__"), key := Value.str (Str.ofString "__firstlineno__") 412, val := Value.int 121 411 }, { hash := PyData.keyHash P (Str.ofString "parent_map"), key := Value.str (Str.ofString "parent_map") 413, val := Value.none }, { hash := PyData.keyHash P (Str.ofString "__init__"), key := Value.str (Str.ofString "__init__") 421, val := Value.ref 99 }, { hash := PyData.keyHash P (Str.ofString "__static_attributes__"), key := Value.str (Str.ofString "__static_attributes__") 423, val := Value.ref 100 }, { hash := PyData.keyHash P (Str.ofString "__dict__"), key := Value.str (Str.ofString "__dict__") 425, val := Value.ref 103 }, { hash := PyData.keyHash P (Str.ofString "__weakref__"), key := Value.str (Str.ofString "__weakref__") 427, val := Value.ref 104 }, { hash := PyData.keyHash P (Str.ofString "__doc__"), key := Value.str (Str.ofString "__doc__") 428, val := Value.none }] 4 }), (102, { cls := Value.type "type", data := Data.cls { name := Str.ofString "_SelectorContext", bases := [Value.type "object"], mro := [Value.ref 102, Value.type "object"], ns := 101, qualname := Str.ofString "_SelectorContext" }, slots := #[none, none, some (Value.str (Str.ofString "_SelectorContext") 401), some (Value.str (Str.ofString "_SelectorContext") 409), some (Value.builtin "object.__new__"), some (Value.bool true)] }), (103, { cls := Value.type "getset_descriptor", data := Data.fields #[Value.str (Str.ofString "__dict__") 424, Value.ref 102, Value.builtin "function.__dict__", Value.builtin "function.__dict__#set"] }), (104, { cls := Value.type "getset_descriptor", data := Data.fields #[Value.str (Str.ofString "__weakref__") 426, Value.ref 102, Value.builtin "ExceptionGroup.__weakref__", Value.none] }), (107, { cls := Value.type "tuple", data := Data.seq #[] }), (109, { cls := Value.type "tuple", data := Data.seq #[Value.str (Str.ofString "script") 436, Value.str (Str.ofString "cells") 437, Value.str (Str.ofString "k") 438] }), (110, { cls := Value.type "tuple", data := Data.seq #[] }), (112, { cls := Value.type "code", data := Data.fields #[Value.str (Str.ofString "_law_cells") 433, Value.str (Str.ofString "_law_cells") 434, Value.str (Str.ofString "/claim/cut.py") 435, Value.int 127 0, Value.int 1 0, Value.int 0 0, Value.int 0 0, Value.int 3 0, Value.ref 107, Value.bool true, Value.int 276 0, Value.ref 108, Value.none, Value.ref 109, Value.ref 110, Value.ref 111, Value.int 439 0, Value.int 127 0, Value.str (Str.ofString "/claim/cut.py") 440] }), (113, { cls := Value.type "function", data := Data.func { name := Str.ofString "_law_cells", qualname := Str.ofString "_law_cells", params := parOf (nth 18), body := FuncBody.stmts (bodyOf (nth 18)), scope := scopeOf (nth 18), globals := 3, closure := [], defaults := Value.none, kwdefaults := Value.none, pyModule := Value.str (Str.ofString "law_jc0013_01") 431, code := Value.ref 112 } }), (114, { cls := Value.type "tuple", data := Data.seq #[] }), (116, { cls := Value.type "tuple", data := Data.seq #[Value.str (Str.ofString "name") 445, Value.str (Str.ofString "thing") 446] }), (117, { cls := Value.type "tuple", data := Data.seq #[] }), (119, { cls := Value.type "code", data := Data.fields #[Value.str (Str.ofString "_law_thing") 442, Value.str (Str.ofString "_law_thing") 443, Value.str (Str.ofString "/claim/cut.py") 444, Value.int 132 0, Value.int 1 0, Value.int 0 0, Value.int 0 0, Value.int 3 0, Value.ref 114, Value.bool true, Value.int 276 0, Value.ref 115, Value.none, Value.ref 116, Value.ref 117, Value.ref 118, Value.int 447 0, Value.int 132 0, Value.str (Str.ofString "/claim/cut.py") 448] }), (120, { cls := Value.type "function", data := Data.func { name := Str.ofString "_law_thing", qualname := Str.ofString "_law_thing", params := parOf (nth 19), body := FuncBody.stmts (bodyOf (nth 19)), scope := scopeOf (nth 19), globals := 3, closure := [], defaults := Value.none, kwdefaults := Value.none, pyModule := Value.str (Str.ofString "law_jc0013_01") 431, code := Value.ref 119 } }), (121, { cls := Value.type "tuple", data := Data.seq #[] }), (123, { cls := Value.type "tuple", data := Data.seq #[Value.str (Str.ofString "number") 453, Value.str (Str.ofString "signs") 454, Value.str (Str.ofString "names") 455, Value.str (Str.ofString "k") 456] }), (124, { cls := Value.type "tuple", data := Data.seq #[] }), (126, { cls := Value.type "code", data := Data.fields #[Value.str (Str.ofString "_law_names") 450, Value.str (Str.ofString "_law_names") 451, Value.str (Str.ofString "/claim/cut.py") 452, Value.int 136 0, Value.int 1 0, Value.int 0 0, Value.int 0 0, Value.int 3 0, Value.ref 121, Value.bool true, Value.int 276 0, Value.ref 122, Value.none, Value.ref 123, Value.ref 124, Value.ref 125, Value.int 457 0, Value.int 136 0, Value.str (Str.ofString "/claim/cut.py") 458] }), (127, { cls := Value.type "function", data := Data.func { name := Str.ofString "_law_names", qualname := Str.ofString "_law_names", params := parOf (nth 20), body := FuncBody.stmts (bodyOf (nth 20)), scope := scopeOf (nth 20), globals := 3, closure := [], defaults := Value.none, kwdefaults := Value.none, pyModule := Value.str (Str.ofString "law_jc0013_01") 431, code := Value.ref 126 } }), (128, { cls := Value.type "tuple", data := Data.seq #[] }), (131, { cls := Value.type "code", data := Data.fields #[Value.str (Str.ofString "_law_light") 460, Value.str (Str.ofString "_law_light") 461, Value.str (Str.ofString "/claim/cut.py") 462, Value.int 143 0, Value.int 2 0, Value.int 0 0, Value.int 0 0, Value.int 3 0, Value.ref 128, Value.bool true, Value.int 276 0, Value.ref 129, Value.none, Value.none, Value.none, Value.ref 130, Value.int 463 0, Value.int 143 0, Value.str (Str.ofString "/claim/cut.py") 464] }), (132, { cls := Value.type "function", data := Data.func { name := Str.ofString "_law_light", qualname := Str.ofString "_law_light", params := parOf (nth 21), body := FuncBody.stmts (bodyOf (nth 21)), scope := scopeOf (nth 21), globals := 3, closure := [], defaults := Value.none, kwdefaults := Value.none, pyModule := Value.str (Str.ofString "law_jc0013_01") 431, code := Value.ref 131 } }), (133, { cls := Value.type "tuple", data := Data.seq #[] }), (136, { cls := Value.type "code", data := Data.fields #[Value.str (Str.ofString "_law_ballot") 466, Value.str (Str.ofString "_law_ballot") 467, Value.str (Str.ofString "/claim/cut.py") 468, Value.int 156 0, Value.int 2 0, Value.int 0 0, Value.int 0 0, Value.int 3 0, Value.ref 133, Value.bool true, Value.int 276 0, Value.ref 134, Value.none, Value.none, Value.none, Value.ref 135, Value.int 469 0, Value.int 156 0, Value.str (Str.ofString "/claim/cut.py") 470] }), (137, { cls := Value.type "function", data := Data.func { name := Str.ofString "_law_ballot", qualname := Str.ofString "_law_ballot", params := parOf (nth 22), body := FuncBody.stmts (bodyOf (nth 22)), scope := scopeOf (nth 22), globals := 3, closure := [], defaults := Value.none, kwdefaults := Value.none, pyModule := Value.str (Str.ofString "law_jc0013_01") 431, code := Value.ref 136 } }), (138, { cls := Value.type "tuple", data := Data.seq #[] }), (141, { cls := Value.type "code", data := Data.fields #[Value.str (Str.ofString "_law_heard") 472, Value.str (Str.ofString "_law_heard") 473, Value.str (Str.ofString "/claim/cut.py") 474, Value.int 159 0, Value.int 3 0, Value.int 0 0, Value.int 0 0, Value.int 3 0, Value.ref 138, Value.bool true, Value.int 276 0, Value.ref 139, Value.none, Value.none, Value.none, Value.ref 140, Value.int 475 0, Value.int 159 0, Value.str (Str.ofString "/claim/cut.py") 476] }), (142, { cls := Value.type "function", data := Data.func { name := Str.ofString "_law_heard", qualname := Str.ofString "_law_heard", params := parOf (nth 23), body := FuncBody.stmts (bodyOf (nth 23)), scope := scopeOf (nth 23), globals := 3, closure := [], defaults := Value.none, kwdefaults := Value.none, pyModule := Value.str (Str.ofString "law_jc0013_01") 431, code := Value.ref 141 } }), (143, { cls := Value.type "tuple", data := Data.seq #[] }), (146, { cls := Value.type "code", data := Data.fields #[Value.str (Str.ofString "_law_mail") 478, Value.str (Str.ofString "_law_mail") 479, Value.str (Str.ofString "/claim/cut.py") 480, Value.int 171 0, Value.int 1 0, Value.int 0 0, Value.int 0 0, Value.int 3 0, Value.ref 143, Value.bool true, Value.int 276 0, Value.ref 144, Value.none, Value.none, Value.none, Value.ref 145, Value.int 481 0, Value.int 171 0, Value.str (Str.ofString "/claim/cut.py") 482] }), (147, { cls := Value.type "function", data := Data.func { name := Str.ofString "_law_mail", qualname := Str.ofString "_law_mail", params := parOf (nth 24), body := FuncBody.stmts (bodyOf (nth 24)), scope := scopeOf (nth 24), globals := 3, closure := [], defaults := Value.none, kwdefaults := Value.none, pyModule := Value.str (Str.ofString "law_jc0013_01") 431, code := Value.ref 146 } }), (148, { cls := Value.type "tuple", data := Data.seq #[] }), (151, { cls := Value.type "code", data := Data.fields #[Value.str (Str.ofString "_law_left") 484, Value.str (Str.ofString "_law_left") 485, Value.str (Str.ofString "/claim/cut.py") 486, Value.int 177 0, Value.int 3 0, Value.int 0 0, Value.int 0 0, Value.int 3 0, Value.ref 148, Value.bool true, Value.int 276 0, Value.ref 149, Value.none, Value.none, Value.none, Value.ref 150, Value.int 487 0, Value.int 177 0, Value.str (Str.ofString "/claim/cut.py") 488] }), (152, { cls := Value.type "function", data := Data.func { name := Str.ofString "_law_left", qualname := Str.ofString "_law_left", params := parOf (nth 25), body := FuncBody.stmts (bodyOf (nth 25)), scope := scopeOf (nth 25), globals := 3, closure := [], defaults := Value.none, kwdefaults := Value.none, pyModule := Value.str (Str.ofString "law_jc0013_01") 431, code := Value.ref 151 } }), (153, { cls := Value.type "tuple", data := Data.seq #[] }), (156, { cls := Value.type "code", data := Data.fields #[Value.str (Str.ofString "_law_duels") 490, Value.str (Str.ofString "_law_duels") 491, Value.str (Str.ofString "/claim/cut.py") 492, Value.int 196 0, Value.int 2 0, Value.int 0 0, Value.int 0 0, Value.int 3 0, Value.ref 153, Value.bool true, Value.int 276 0, Value.ref 154, Value.none, Value.none, Value.none, Value.ref 155, Value.int 493 0, Value.int 196 0, Value.str (Str.ofString "/claim/cut.py") 494] }), (157, { cls := Value.type "function", data := Data.func { name := Str.ofString "_law_duels", qualname := Str.ofString "_law_duels", params := parOf (nth 26), body := FuncBody.stmts (bodyOf (nth 26)), scope := scopeOf (nth 26), globals := 3, closure := [], defaults := Value.none, kwdefaults := Value.none, pyModule := Value.str (Str.ofString "law_jc0013_01") 431, code := Value.ref 156 } }), (158, { cls := Value.type "tuple", data := Data.seq #[] }), (161, { cls := Value.type "code", data := Data.fields #[Value.str (Str.ofString "law") 496, Value.str (Str.ofString "law") 497, Value.str (Str.ofString "/claim/cut.py") 498, Value.int 205 0, Value.int 1 0, Value.int 0 0, Value.int 0 0, Value.int 3 0, Value.ref 158, Value.bool true, Value.int 276 0, Value.ref 159, Value.none, Value.none, Value.none, Value.ref 160, Value.int 499 0, Value.int 205 0, Value.str (Str.ofString "/claim/cut.py") 500] }), (162, { cls := Value.type "function", data := Data.func { name := Str.ofString "law", qualname := Str.ofString "law", params := parOf (nth 27), body := FuncBody.stmts (bodyOf (nth 27)), scope := scopeOf (nth 27), globals := 3, closure := [], defaults := Value.none, kwdefaults := Value.none, pyModule := Value.str (Str.ofString "law_jc0013_01") 431, code := Value.ref 161 } })]
theorem ad_ok (P : Params) : adL = (heapK P).map (·.1) := rfl
noncomputable abbrev hookK : Hook := kmHook heapK adL ad_ok [80]
theorem headRun : LeftO PySem.Challenge.rw_jc0013_01.row.prog viewQ looseL (fun s => xlAt viewQ lvL s && recOk PySem.Challenge.rw_jc0013_01.row.records s) hookK.obs hookK.val 1910 := fun w => by kernel_rfl
theorem headT (L : LawAt) : PySem.Challenge.rw_jc0013_01.Holds := by
  refine holds_law ws fun said => ?_
  refine holds_open (q := viewQ) (loose := looseL) (XP := XL viewQ lvL) (YP := hookK.says) headRun hookK.of hookK.keeps (fun s e => xl_of s (Bool.and_eq_true_iff.mp e).1) XL.keeps (by rfl) (by rfl) (by rfl) (fun s e => recFacts_of (Bool.and_eq_true_iff.mp e).2) (by rfl) said (by decide +kernel) ⟨rfl, rfl, rfl, rfl, rfl, by decide +kernel⟩ ?hw ?hc
  case hw => w_witness2
  intro w s0 s1 mg mb G Y fa o pm cd doc dV kV ho hd hcd hD hmg hg args vals as hpre hlay hrd hwl hlo
  have KX := km_in_of Y
  have hT8 := km_tabs_of Y
  have T := G.T
  refine (fun H => L KX H (hT8 80 (List.mem_singleton.mpr rfl)) hg T.g T.b T.nolimit T.builtins T.bmain ?_ hpre hlay hrd hwl hlo) ?_
  · have e := kns_eq KX H.n3 T.g
    have e2 : kns _ mainGlobals "law" = some (.ref 162) := List.map_inj_left.mp H.refs ("law", 162) (List.mem_of_getElem? (i := 19) rfl)
    exact Value.ref.inj (Option.some.inj (hmg.symm.trans ((congrFun e "law").trans e2)))
  · constructor
    all_goals walk_at "j khead"
theorem runs_toks {M : Model} {Γ : Ctx} {p : Pos} {t : Sem Fin} {fs : List Frame} {s s' : Shared} {e : End} (h : Runs M Γ p t fs s e s') : s.toks ≤ s'.toks := by
  induction h <;> (try simp only [Shared.setGen] at *) <;> (try omega)
theorem returns_toks {M : Model} {Γ : Ctx} {p : Pos} {s s' : Shared} {r : Result} (h : Returns M Γ p s r s') : s.toks ≤ s'.toks := runs_toks h
theorem wakes_toks {M : Model} {Γ : Ctx} {p : Pos} {g : Nat} {r : Resume} {s s' : Shared} {res : GenResult} (h : Wakes M Γ p g r s res s') : s.toks ≤ s'.toks := by
  unfold Wakes at h
  split at h
  · exact h.elim
  · split at h
    · obtain ⟨e₁, s₁, hr, _, _, rfl⟩ := h; exact (runs_toks hr : (s.setGen g .running).toks ≤ s₁.toks)
    · rw [h.2]; exact Nat.le_refl _
    · rw [h.2]; exact Nat.le_refl _
  · obtain ⟨e₁, s₁, hr, _, _, rfl⟩ := h; exact (runs_toks hr : (s.setGen g .running).toks ≤ s₁.toks)
  · rw [h.2]; exact Nat.le_refl _
  · rw [h.2]; exact Nat.le_refl _
open Sem in
theorem wp_toks {α : Type} (M : Model) (Γ : Ctx) (n : Nat) (t : Sem α) : ∀ (Q : α → Pos → Shared → Prop) (E : Value → Pos → Shared → Prop) (p : Pos) (s : Shared), n ≤ s.toks → wp M Γ t Q E p s →
    wp M Γ t (fun a p' s' => n ≤ s'.toks ∧ Q a p' s') (fun e p' s' => n ≤ s'.toks ∧ E e p' s') p s := by
  induction t with
  | pure a => intro Q E p s hn h; exact ⟨hn, h⟩
  | raise e => intro Q E p s hn h; exact ⟨hn, h⟩
  | unsupported _ => intro Q E p s _ h; exact h
  | finish _ => intro Q E p s _ h; exact h
  | rule _ k ih => intro Q E p s hn h; exact ih () Q E p s hn h
  | «at» p' k ih => intro Q E p s hn h; exact ih () Q E p' s hn h
  | load a _ k ih => intro Q E p s hn h; obtain ⟨o, ho, h⟩ := h; exact ⟨o, ho, ih o Q E p s hn h⟩
  | update a _ f k ih => intro Q E p s hn h; exact ⟨h.1, ih () Q E p _ hn h.2⟩
  | loadIfAlive a k ih => intro Q E p s hn h; exact ih _ Q E p s hn h
  | point _ k ih => intro Q E p s hn h; exact ih () Q E p s hn h
  | register _ _ => intro Q E p s _ h; exact h
  | alloc o k ih => intro Q E p s hn h; exact ih _ Q E p _ hn h
  | fresh k ih => intro Q E p s hn h; exact ih _ Q E p _ (Nat.le_succ_of_le hn) h
  | ask k ih => intro Q E p s hn h; exact ih _ Q E p s hn h
  | choose src m k ih => intro Q E p s hn h; exact ⟨h.1, ih _ Q E p _ hn h.2⟩
  | os q _ k ih => intro Q E p s hn h; exact ih _ Q E p _ hn h
  | call c hd _ _ k ih => intro Q E p s hn h; obtain ⟨r, s', hr, h⟩ := h; exact ⟨r, s', hr, ih r Q E p s' (Nat.le_trans hn (returns_toks hr)) h⟩
  | handled own k ih => intro Q E p s hn h; exact ih _ Q E p s hn h
  | genState g k ih => intro Q E p s hn h; obtain ⟨st, hs, h⟩ := h; exact ⟨st, hs, ih _ Q E p s hn h⟩
  | newGen c k ih => intro Q E p s hn h; exact ih _ Q E p _ hn h
  | resume g r _ k ih => intro Q E p s hn h; obtain ⟨res, s', hw, h⟩ := h; exact ⟨res, s', hw, ih res Q E p s' (Nat.le_trans hn (wakes_toks hw)) h⟩
  | yield _ _ _ _ => intro Q E p s _ h; exact h
  | stack k ih => intro Q E p s hn h; exact ih _ Q E p s hn h
  | fork _ _ => intro Q E p s _ h; exact h
  | thread k ih => intro Q E p s hn h; exact ih _ Q E p s hn h
  | await _ _ _ _ _ => intro Q E p s _ h; exact h
theorem with_tk {α : Type} {M : Model} {A : Around} {s : Shared} {t : Sem α} {Q : α → Shared → Prop} {E : Value → Shared → Prop}
    (h : wpAny M A t (fun a s' => (0 < s.toks → 0 < s'.toks) → Q a s') E s) : wpAny M A t Q E s :=
  fun Γ p hΓ => by
    have h2 := wp_toks M Γ s.toks t (fun a _ s' => (0 < s.toks → 0 < s'.toks) → Q a s') (fun e _ s' => E e s') p s (Nat.le_refl _) (h Γ p hΓ)
    exact Sem.wp_mono M Γ t (fun _ _ _ q => q.2 fun h => Nat.lt_of_lt_of_le h q.1) (fun _ _ _ q => q.2) p s h2
/-- abstract values: what a Python value says, no heap -/
inductive AV where
  | none
  | bool (b : Bool)
  | int (i : Int)
  | flt (x : UInt64)
  | str (x : Str)
  | bytes (b : Array UInt8)
  | list (xs : List AV)
  | tup (xs : List AV)
  | thing (t : AV)
  | prim (v : Value)
  | sl (lo hi : Option Int)
  deriving Inhabited
mutual
noncomputable def Rd (h : Heap) (O : Addr → Prop) : AV → Value → Prop
  | .none, v => v = .none
  | .bool b, v => v = .bool b
  | .int i, v => ∃ t, v = .int i t
  | .flt x, v => ∃ t, v = .float x t
  | .str x, v => ∃ t, v = .str x t ∧ x.length ≤ sizeLine
  | .bytes b, v => ∃ t, v = .bytes b t ∧ b.size ≤ sizeLine
  | .list xs, v => ∃ a vs n, v = .ref a ∧ ¬ O a ∧ a ≠ TA ∧ h.get? a = some { cls := .type "list", data := .seq vs n } ∧ vs.size ≤ sizeLine ∧ RdL h O xs vs.toList
  | .tup xs, v => ∃ a vs n, v = .ref a ∧ ¬ O a ∧ a ≠ TA ∧ h.get? a = some { cls := .type "tuple", data := .seq vs n } ∧ vs.size ≤ sizeLine ∧ RdL h O xs vs.toList
  | .thing t, v => ∃ a d o od mA v', v = .ref a ∧ ¬ O a ∧ a ≠ TA ∧ ¬ O d ∧ d ≠ TA ∧ h.get? a = some o ∧ h.get? d = some od ∧ (∀ h' : Heap, h'.get? a = some o → h'.get? d = some od → h'.Inst a CA mA) ∧ mA "tag" = some v' ∧ Rd h O t v'
  | .prim u, v => v = u
  | .sl lo hi, v => ∃ a l u, v = .ref a ∧ ¬ O a ∧ a ≠ TA ∧ h.get? a = some { cls := .type "slice", data := .fields #[l, u, .none] } ∧ (match lo with | some i => ∃ t, l = .int i t | none => l = .none) ∧ (match hi with | some i => ∃ t, u = .int i t | none => u = .none)
noncomputable def RdL (h : Heap) (O : Addr → Prop) : List AV → List Value → Prop
  | [], vs => vs = []
  | x :: xs, vs => ∃ v r, vs = v :: r ∧ Rd h O x v ∧ RdL h O xs r
end
theorem rd_none {h O v} : Rd h O .none v ↔ v = .none := by rw [Rd]
theorem rd_bool {h O b v} : Rd h O (.bool b) v ↔ v = .bool b := by rw [Rd]
theorem rd_int {h O i v} : Rd h O (.int i) v ↔ ∃ t, v = .int i t := by rw [Rd]
theorem rd_flt {h O i v} : Rd h O (.flt i) v ↔ ∃ t, v = .float i t := by rw [Rd]
theorem rd_str {h O x v} : Rd h O (.str x) v ↔ ∃ t, v = .str x t ∧ x.length ≤ sizeLine := by rw [Rd]
theorem rd_bytes {h O b v} : Rd h O (.bytes b) v ↔ ∃ t, v = .bytes b t ∧ b.size ≤ sizeLine := by rw [Rd]
theorem rd_list {h O xs v} : Rd h O (.list xs) v ↔ ∃ a vs n, v = .ref a ∧ ¬ O a ∧ a ≠ TA ∧ h.get? a = some { cls := .type "list", data := .seq vs n } ∧ vs.size ≤ sizeLine ∧ RdL h O xs vs.toList := by rw [Rd]
theorem rd_tup {h O xs v} : Rd h O (.tup xs) v ↔ ∃ a vs n, v = .ref a ∧ ¬ O a ∧ a ≠ TA ∧ h.get? a = some { cls := .type "tuple", data := .seq vs n } ∧ vs.size ≤ sizeLine ∧ RdL h O xs vs.toList := by rw [Rd]
theorem rd_thing {h O t v} : Rd h O (.thing t) v ↔ ∃ a d o od mA v', v = .ref a ∧ ¬ O a ∧ a ≠ TA ∧ ¬ O d ∧ d ≠ TA ∧ h.get? a = some o ∧ h.get? d = some od ∧ (∀ h' : Heap, h'.get? a = some o → h'.get? d = some od → h'.Inst a CA mA) ∧ mA "tag" = some v' ∧ Rd h O t v' := by rw [Rd]
theorem rd_prim {h O u v} : Rd h O (.prim u) v ↔ v = u := by rw [Rd]
theorem rd_sl {h O lo hi v} : Rd h O (.sl lo hi) v ↔ ∃ a l u, v = .ref a ∧ ¬ O a ∧ a ≠ TA ∧ h.get? a = some { cls := .type "slice", data := .fields #[l, u, .none] } ∧ (match lo with | some i => ∃ t, l = .int i t | none => l = .none) ∧ (match hi with | some i => ∃ t, u = .int i t | none => u = .none) := by rw [Rd]
theorem rdl_nil {h O vs} : RdL h O [] vs ↔ vs = [] := by rw [RdL]
theorem rdl_cons {h O x xs vs} : RdL h O (x :: xs) vs ↔ ∃ v r, vs = v :: r ∧ Rd h O x v ∧ RdL h O xs r := by rw [RdL]
noncomputable def selQ : Str := "_prepare_tag.<locals>.select"
/-- the code of a select -/
noncomputable def CodeAt (h : Heap) (cv : Value) : Prop := ∃ c o fs t, cv = .ref c ∧ c ≠ TA ∧ h.get? c = some o ∧ o.data = .fields fs ∧ fs[1]? = some (.str selQ t)
noncomputable def CodesOk (h : Heap) : Prop := ∃ vs, h.get? TA = some (tabObj vs) ∧ TriplesOk vs.toList ∧ ∀ pos cv, codeAmong pos vs.toList = some cv → CodeAt h cv
/-- no code stands there -/
noncomputable def NC (h : Heap) (b : Addr) : Prop := ∀ o fs t, h.get? b = some o → o.data = .fields fs → fs[1]? ≠ some (.str selQ t)
theorem NC.of {h : Heap} {b : Addr} {o : Obj} (e : h.get? b = some o) (hd : ∀ fs t, o.data = .fields fs → fs[1]? ≠ some (.str selQ t)) : NC h b := fun o' fs t e' => by
  rw [e] at e'; cases e'; exact hd fs t
theorem NC.seq {h : Heap} {b : Addr} {o : Obj} {vs n} (e : h.get? b = some o) (hd : o.data = .seq vs n) : NC h b := .of e fun fs t q => by rw [hd] at q; cases q
theorem NC.ns {h : Heap} {b : Addr} {m} (e : h.Ns b m) : NC h b := by
  obtain ⟨o, es, ep, e1, d1, _⟩ := e
  exact .of e1 fun fs t q => by rw [d1] at q; cases q
theorem NC.cell {h : Heap} {b : Addr} {v} (e : h.IsCell b v) : NC h b := by
  obtain ⟨o, e1, d1⟩ := e
  exact .of e1 fun fs t q => by rw [d1] at q; cases q
/-- codes stay -/
structure CodesStep (h h' : Heap) : Prop where
  one : ∀ cv, CodeAt h cv → CodeAt h' cv
  all : CodesOk h → CodesOk h'
theorem CodesStep.refl {h : Heap} : CodesStep h h := ⟨fun _ q => q, fun q => q⟩
theorem CodesOk.step {h h' : Heap} (hT : ∀ o, h.get? TA = some o → h'.get? TA = some o) (hk : ∀ b o, b ≠ TA → h.get? b = some o → h'.get? b = some o ∨ NC h b) : CodesStep h h' := by
  have one : ∀ cv, CodeAt h cv → CodeAt h' cv := fun cv ⟨c, o, fs, t, e1, e2, e3, e4, e5⟩ => ⟨c, o, fs, t, e1, e2, (hk c o e2 e3).elim id fun q => absurd e5 (q o fs t e3 e4), e4, e5⟩
  exact ⟨one, fun ⟨vs, h1, h2, h3⟩ => ⟨vs, hT _ h1, h2, fun pos cv e => one cv (h3 pos cv e)⟩⟩
theorem CodesOk.all {h h' : Heap} (hk : ∀ b o, h.get? b = some o → h'.get? b = some o) : CodesStep h h' := CodesOk.step (hk TA) fun b o _ e => .inl (hk b o e)
theorem CodesOk.but {h h' : Heap} {a : Addr} (hk : ∀ b o, b ≠ a → h.get? b = some o → h'.get? b = some o) (ha : a ≠ TA) (hn : NC h a) : CodesStep h h' := CodesOk.step (fun o => hk TA o (Ne.symm ha)) fun b o _ e => by
  by_cases q : b = a
  · exact .inr (q ▸ hn)
  · exact .inl (hk b o q e)
/-- the state relation: all that stood stands, but for the addresses of W, the code table, the generators of Gs -/
structure Kp (W : Addr → Prop) (Gs : Nat → Prop) (s s' : Shared) : Prop where
  heap : ∀ b o, b ≠ TA → ¬ W b → s.heap.get? b = some o → s'.heap.get? b = some o
  size : s.heap.objs.size ≤ s'.heap.objs.size
  tab : (∃ vs, s.heap.get? TA = some (tabObj vs)) → ∃ vs, s'.heap.get? TA = some (tabObj vs)
  gsize : s.gens.size ≤ s'.gens.size
  gens : ∀ g x, ¬ Gs g → s.gens[g]? = some x → s'.gens[g]? = some x
  bare : AllBare s.gens → AllBare s'.gens
  os : s'.os = s.os
  tk : 0 < s.toks → 0 < s'.toks
  codes : CodesStep s.heap s'.heap
noncomputable abbrev K0 : Shared → Shared → Prop := Kp (fun _ => False) (fun _ => False)
theorem Kp.refl {W G s} : Kp W G s s := ⟨fun _ _ _ _ h => h, Nat.le_refl _, fun h => h, Nat.le_refl _, fun _ _ _ h => h, fun h => h, rfl, fun h => h, .refl⟩
theorem Kp.trans {W G s s' s''} (a : Kp W G s s') (b : Kp W G s' s'') : Kp W G s s'' :=
  ⟨fun x o h1 h2 e => b.heap x o h1 h2 (a.heap x o h1 h2 e), Nat.le_trans a.size b.size, fun e => b.tab (a.tab e), Nat.le_trans a.gsize b.gsize, fun g x h e => b.gens g x h (a.gens g x h e), fun e => b.bare (a.bare e), b.os.trans a.os, fun h => b.tk (a.tk h), ⟨fun cv h => b.codes.one cv (a.codes.one cv h), fun h => b.codes.all (a.codes.all h)⟩⟩
theorem Kp.mono {W W' : Addr → Prop} {G G' : Nat → Prop} {s s'} (a : Kp W G s s') (hW : ∀ b, W b → W' b ∨ s.heap.get? b = none) (hG : ∀ g, G g → G' g ∨ s.gens.size ≤ g) : Kp W' G' s s' :=
  ⟨fun x o h1 h2 e => a.heap x o h1 (fun hw => (hW x hw).elim h2 fun hn => by rw [hn] at e; cases e) e, a.size, a.tab, a.gsize,
   fun g x h e => a.gens g x (fun hg => (hG g hg).elim h fun hn => by
     rw [Array.getElem?_eq_none hn] at e; cases e) e, a.bare, a.os, a.tk, a.codes⟩
mutual
theorem Rd.move {h h' : Heap} {O O' : Addr → Prop} (hh : ∀ b o, b ≠ TA → ¬ O b → h.get? b = some o → h'.get? b = some o ∧ ¬ O' b) :
    ∀ {x : AV} {v : Value}, Rd h O x v → Rd h' O' x v
  | .none, _, r => by rw [Rd] at *; exact r
  | .bool _, _, r => by rw [Rd] at *; exact r
  | .int _, _, r => by rw [Rd] at *; exact r
  | .flt _, _, r => by rw [Rd] at *; exact r
  | .str _, _, r => by rw [Rd] at *; exact r
  | .bytes _, _, r => by rw [Rd] at *; exact r
  | .list _, _, r => by
    rw [Rd] at *
    obtain ⟨a, vs, n, e, h1, h2, h3, h4, h5⟩ := r
    exact ⟨a, vs, n, e, (hh _ _ h2 h1 h3).2, h2, (hh _ _ h2 h1 h3).1, h4, RdL.move hh h5⟩
  | .tup _, _, r => by
    rw [Rd] at *
    obtain ⟨a, vs, n, e, h1, h2, h3, h4, h5⟩ := r
    exact ⟨a, vs, n, e, (hh _ _ h2 h1 h3).2, h2, (hh _ _ h2 h1 h3).1, h4, RdL.move hh h5⟩
  | .thing _, _, r => by
    rw [Rd] at *
    obtain ⟨a, d, o, od, mA, v', e, h1, h2, h3, h4, h5, h6, h7, h8, h9⟩ := r
    exact ⟨a, d, o, od, mA, v', e, (hh _ _ h2 h1 h5).2, h2, (hh _ _ h4 h3 h6).2, h4, (hh _ _ h2 h1 h5).1, (hh _ _ h4 h3 h6).1, h7, h8, Rd.move hh h9⟩
  | .prim _, _, r => by rw [Rd] at *; exact r
  | .sl _ _, _, r => by
    rw [Rd] at *
    obtain ⟨a, l, u, e, h1, h2, h3, h4⟩ := r
    exact ⟨a, l, u, e, (hh _ _ h2 h1 h3).2, h2, (hh _ _ h2 h1 h3).1, h4⟩
theorem RdL.move {h h' : Heap} {O O' : Addr → Prop} (hh : ∀ b o, b ≠ TA → ¬ O b → h.get? b = some o → h'.get? b = some o ∧ ¬ O' b) :
    ∀ {xs : List AV} {vs : List Value}, RdL h O xs vs → RdL h' O' xs vs
  | [], _, r => by rw [RdL] at *; exact r
  | _ :: _, _, r => by
    rw [RdL] at *
    obtain ⟨v, r', e, h1, h2⟩ := r
    exact ⟨v, r', e, Rd.move hh h1, RdL.move hh h2⟩
end
theorem Rd.mono {h h' : Heap} {O O' : Addr → Prop} (hO : ∀ b, O' b → O b) (hh : ∀ b o, b ≠ TA → ¬ O b → h.get? b = some o → h'.get? b = some o)
    {x : AV} {v : Value} (r : Rd h O x v) : Rd h' O' x v := r.move fun b o h1 h2 h3 => ⟨hh b o h1 h2 h3, fun q => h2 (hO b q)⟩
theorem RdL.mono {h h' : Heap} {O O' : Addr → Prop} (hO : ∀ b, O' b → O b) (hh : ∀ b o, b ≠ TA → ¬ O b → h.get? b = some o → h'.get? b = some o)
    {x : List AV} {v : List Value} (r : RdL h O x v) : RdL h' O' x v := r.move fun b o h1 h2 h3 => ⟨hh b o h1 h2 h3, fun q => h2 (hO b q)⟩
theorem Rd.kp {W G s s'} {O : Addr → Prop} {x v} (k : Kp W G s s') (hW : ∀ b, W b → O b ∨ s.heap.get? b = none) (r : Rd s.heap O x v) : Rd s'.heap O x v :=
  Rd.mono (fun _ h => h) (fun b o h1 h2 e => (k.mono (W' := O) (G' := G) hW (fun _ h => .inl h)).heap b o h1 h2 e) r
theorem RdL.kp {W G s s'} {O : Addr → Prop} {x v} (k : Kp W G s s') (hW : ∀ b, W b → O b ∨ s.heap.get? b = none) (r : RdL s.heap O x v) : RdL s'.heap O x v :=
  RdL.mono (fun _ h => h) (fun b o h1 h2 e => (k.mono (W' := O) (G' := G) hW (fun _ h => .inl h)).heap b o h1 h2 e) r
theorem Rd.k0 {s s'} {O : Addr → Prop} {x v} (k : K0 s s') (r : Rd s.heap O x v) : Rd s'.heap O x v := r.kp k (fun _ h => h.elim)
theorem RdL.k0 {s s'} {O : Addr → Prop} {x v} (k : K0 s s') (r : RdL s.heap O x v) : RdL s'.heap O x v := r.kp k (fun _ h => h.elim)
theorem Rd.up {h} {O O' : Addr → Prop} {x v} (hO : ∀ b, O' b → O b) (r : Rd h O x v) : Rd h O' x v := r.mono hO fun _ _ _ _ e => e
theorem RdL.up {h} {O O' : Addr → Prop} {x v} (hO : ∀ b, O' b → O b) (r : RdL h O x v) : RdL h O' x v := r.mono hO fun _ _ _ _ e => e
theorem RdL.length {h O} : ∀ {xs : List AV} {vs : List Value}, RdL h O xs vs → vs.length = xs.length
  | [], _, r => by rw [RdL] at r; subst r; rfl
  | x :: xs, _, r => by
    rw [RdL] at r
    obtain ⟨v, r', rfl, _, h⟩ := r
    rw [List.length_cons, List.length_cons, h.length]
theorem RdL.append {h O} : ∀ {xs ys : List AV} {vs ws : List Value}, RdL h O xs vs → RdL h O ys ws → RdL h O (xs ++ ys) (vs ++ ws)
  | [], _, _, _, r, q => by rw [RdL] at r; subst r; exact q
  | x :: xs, _, _, _, r, q => by
    rw [RdL] at r
    obtain ⟨v, r', rfl, h1, h⟩ := r
    rw [List.cons_append, List.cons_append, RdL]
    exact ⟨v, _, rfl, h1, h.append q⟩
theorem RdL.get {h O} : ∀ {xs : List AV} {vs : List Value}, RdL h O xs vs → ∀ {i : Nat} {x}, xs[i]? = some x → ∃ v, vs[i]? = some v ∧ Rd h O x v
  | [], _, _, i, x, e => by simp at e
  | x :: xs, _, r, i, y, e => by
    rw [RdL] at r
    obtain ⟨v, r', rfl, h1, h⟩ := r
    cases i with
    | zero => simp at e; subst e; exact ⟨v, by simp, h1⟩
    | succ i => simp at e; obtain ⟨w, hw, hr⟩ := h.get e; exact ⟨w, by simpa using hw, hr⟩
theorem RdL.nil {h O} : RdL h O [] [] := by rw [RdL]
theorem RdL.cons {h O x xs v vs} (a : Rd h O x v) (b : RdL h O xs vs) : RdL h O (x :: xs) (v :: vs) := by rw [RdL]; exact ⟨v, vs, rfl, a, b⟩
theorem RdL.single {h O x v} (a : Rd h O x v) : RdL h O [x] [v] := .cons a .nil
inductive Sl where
  | fz (a : AV)
  | own (xs : List AV)
  deriving Inhabited
noncomputable abbrev Ro := List (Str × Sl)
noncomputable def Ro.get (ρ : Ro) (x : Str) : Option AV := match List.lookup x ρ with
  | some (.fz a) => some a
  | _ => none
noncomputable def put : Ro → Str → Sl → Ro
  | [], x, s => [(x, s)]
  | (y, t) :: r, x, s => if y == x then (x, s) :: r else (y, t) :: put r x s
theorem lookup_put (ρ : Ro) (x : Str) (s : Sl) (y : Str) : (put ρ x s).lookup y = if y = x then some s else ρ.lookup y := by
  induction ρ with
  | nil =>
    rw [put, List.lookup_cons]
    by_cases h : y = x
    · subst h; simp
    · have : (y == x) = false := beq_eq_false_iff_ne.mpr h
      rw [this]; simp [h]
  | cons p r ih =>
    obtain ⟨z, t⟩ := p
    rw [put]
    by_cases hz : z = x
    · subst hz
      simp only [beq_self_eq_true, if_true, List.lookup_cons]
      by_cases h : y = z
      · subst h; simp
      · have : (y == z) = false := beq_eq_false_iff_ne.mpr h
        rw [this]; simp [h]
    · have hz' : (z == x) = false := beq_eq_false_iff_ne.mpr hz
      rw [hz']
      simp only [Bool.false_eq_true, if_false, List.lookup_cons]
      by_cases h : y = z
      · subst h
        simp [hz]
      · have : (y == z) = false := beq_eq_false_iff_ne.mpr h
        rw [this]
        exact ih
/-- where a name's value stands -/
noncomputable def Holds (env : Env) (h : Heap) (x : Str) (v : Value) : Prop :=
  (env.kindOf x = some .local ∧ ∃ m, h.Ns env.locals m ∧ m x = some v) ∨
  ((env.kindOf x = some .cell ∨ env.kindOf x = some .free) ∧ ∃ c, env.cells.lookup x = some c ∧ h.IsCell c (some v))
theorem Holds.uniq {env : Env} {h : Heap} {x : Str} {v w : Value} (a : Holds env h x v) (b : Holds env h x w) : v = w := by
  rcases a with ⟨k, m, hn, hm⟩ | ⟨k, c, hc, o, ho, hd⟩ <;> rcases b with ⟨k', m', hn', hm'⟩ | ⟨k', c', hc', o', ho', hd'⟩
  · obtain ⟨o1, es1, ep1, e1, d1, _, f1⟩ := hn
    obtain ⟨o2, es2, ep2, e2, d2, _, f2⟩ := hn'
    rw [e1] at e2; cases e2
    rw [d1] at d2; cases d2
    have := (f1 x).symm.trans (f2 x)
    rw [hm, hm'] at this; cases this; rfl
  · rw [k] at k'; rcases k' with k' | k' <;> cases k'
  · rw [k'] at k; rcases k with k | k <;> cases k
  · rw [hc] at hc'; cases hc'
    rw [ho] at ho'; cases ho'
    rw [hd] at hd'; cases hd'; rfl
structure EnvOk (h₁ : Heap) (own : List Str) (env : Env) (O Mu : Addr → Prop) (h : Heap) : Prop where
  kind : env.scope.kind = .function
  glob : env.globals = mainGlobals
  bi : env.builtins = builtinsNs
  ns : ∃ m, h.Ns env.locals m
  muL : Mu env.locals
  cells : ∀ n c, env.cells.lookup n = some c → O c ∧ c ≠ TA ∧ c ≠ env.locals ∧ ∃ v, h.IsCell c v
  muC : ∀ n c, n ∈ own → env.cells.lookup n = some c → Mu c
  ownC : ∀ n, n ∈ own → env.kindOf n = some .cell ∧ (env.cells.lookup n).isSome = true
  apart : ∀ n n' c, env.cells.lookup n = some c → env.cells.lookup n' = some c → n = n'
  has : ∀ n, env.kindOf n = some .cell ∨ env.kindOf n = some .free → (env.cells.lookup n).isSome = true
  muO : ∀ b, Mu b → O b
  muN : ∀ b, Mu b → h₁.objs.size ≤ b ∧ b ≠ TA
  bound : ∀ b, O b → b < h.objs.size
noncomputable def SlotOk (h : Heap) (O Mu : Addr → Prop) : Sl → Value → Prop
  | .fz a, v => Rd h O a v
  | .own xs, v => ∃ a vs n, v = .ref a ∧ Mu a ∧ h.get? a = some { cls := .type "list", data := .seq vs n } ∧ vs.size ≤ sizeLine ∧ RdL h O xs vs.toList
structure FrOk (env : Env) (O Mu : Addr → Prop) (ρ : Ro) (h : Heap) : Prop where
  at_ : ∀ x sl, ρ.lookup x = some sl → ∃ v, Holds env h x v ∧ SlotOk h O Mu sl v
  apart : ∀ x y xs ys v, x ≠ y → ρ.lookup x = some (.own xs) → ρ.lookup y = some (.own ys) → Holds env h x v → Holds env h y v → False
structure Base (h₁ h : Heap) : Prop where
  keep : ∀ b o, b ≠ TA → h₁.get? b = some o → h.get? b = some o
  tab : ∃ vs, h.get? TA = some (tabObj vs)
  size : h₁.objs.size ≤ h.objs.size
  codes : CodesOk h
theorem Base.kp {h₁ : Heap} {W : Addr → Prop} {G : Nat → Prop} {s s' : Shared} (B : Base h₁ s.heap) (k : Kp W G s s') (hW : ∀ b, W b → h₁.objs.size ≤ b ∨ s.heap.get? b = none) : Base h₁ s'.heap :=
  ⟨fun b o h1 e => k.heap b o h1 (fun hw => (hW b hw).elim (fun q => Nat.lt_irrefl _ (Nat.lt_of_lt_of_le (Heap.lt_size e) q)) (fun q => by rw [B.keep b o h1 e] at q; cases q)) (B.keep b o h1 e), k.tab B.tab, Nat.le_trans B.size k.size, k.codes.all B.codes⟩
theorem Base.k0 {h₁ : Heap} {s s' : Shared} (B : Base h₁ s.heap) (k : K0 s s') : Base h₁ s'.heap := B.kp k fun _ h => h.elim
theorem Heap.Ns.get {h h' : Heap} {a m} (hn : h.Ns a m) (e : ∀ o, h.get? a = some o → h'.get? a = some o) : h'.Ns a m :=
  let ⟨o, es, ep, x, r⟩ := hn; ⟨o, es, ep, e _ x, r⟩
/-- what of a frame stands when the heap grows -/
theorem Holds.mono {env : Env} {h h' : Heap} {x : Str} {v : Value} (a : Holds env h x v) (k : ∀ b o, h.get? b = some o → (b = env.locals ∨ ∃ n, env.cells.lookup n = some b) → h'.get? b = some o) : Holds env h' x v := by
  rcases a with ⟨k', m, hn, hm⟩ | ⟨k', c, hc, o, ho, hd⟩
  · exact .inl ⟨k', m, Heap.Ns.get hn (fun o e => k _ o e (.inl rfl)), hm⟩
  · exact .inr ⟨k', c, hc, o, k _ o ho (.inr ⟨x, hc⟩), hd⟩
theorem Mem_ne_TA {env O Mu own h₁ h} (e : EnvOk h₁ own env O Mu h) {b : Addr} (hb : b = env.locals ∨ ∃ n, env.cells.lookup n = some b) : b ≠ TA := by
  rcases hb with rfl | ⟨n, hc⟩
  · exact (e.muN _ e.muL).2
  · exact (e.cells n b hc).2.1
theorem EnvOk.k0 {h₁ own env O Mu} {s s' : Shared} (e : EnvOk h₁ own env O Mu s.heap) (k : K0 s s') : EnvOk h₁ own env O Mu s'.heap :=
  { e with
    ns := let ⟨m, hn⟩ := e.ns; ⟨m, Heap.Ns.get hn fun o q => k.heap _ o (e.muN _ e.muL).2 (fun h => h) q⟩
    cells := fun n c hc => let ⟨a, b, d, v, o, ho, hd⟩ := e.cells n c hc; ⟨a, b, d, v, o, k.heap _ o b (fun h => h) ho, hd⟩
    bound := fun b hb => Nat.lt_of_lt_of_le (e.bound b hb) k.size }
theorem SlotOk.k0 {O Mu sl v} {s s' : Shared} (h : SlotOk s.heap O Mu sl v) (hM : ∀ b, Mu b → b ≠ TA) (k : K0 s s') : SlotOk s'.heap O Mu sl v := by
  cases sl with
  | fz a => exact Rd.k0 k h
  | own xs =>
    obtain ⟨a, vs, n, h1, h2, h3, h4, h5⟩ := h
    exact ⟨a, vs, n, h1, h2, k.heap _ _ (hM _ h2) (fun h => h) h3, h4, h5.k0 k⟩
theorem Holds.back {h₁ own env O Mu} {s s' : Shared} (e : EnvOk h₁ own env O Mu s.heap) (k : K0 s s') {x v w} (a : Holds env s.heap x v) (b : Holds env s'.heap x w) : v = w :=
  Holds.uniq (a.mono fun b o hb hm => k.heap b o (Mem_ne_TA e hm) (fun h => h) hb) b
theorem FrOk.k0 {h₁ own env O Mu ρ} {s s' : Shared} (e : EnvOk h₁ own env O Mu s.heap) (f : FrOk env O Mu ρ s.heap) (k : K0 s s') : FrOk env O Mu ρ s'.heap where
  at_ := fun x sl hx => let ⟨v, hv, hs⟩ := f.at_ x sl hx; ⟨v, hv.mono fun b o hb hm => k.heap b o (Mem_ne_TA e hm) (fun h => h) hb, hs.k0 (fun b hb => (e.muN b hb).2) k⟩
  apart := fun x y xs ys v hne hx hy hvx hvy => by
    obtain ⟨vx, hvx', _⟩ := f.at_ x _ hx
    obtain ⟨vy, hvy', _⟩ := f.at_ y _ hy
    have e1 := Holds.back e k hvx' hvx
    have e2 := Holds.back e k hvy' hvy
    subst e1; subst e2
    exact f.apart x y xs ys _ hne hx hy hvx' hvy'
section
variable {prog : Program} {w : World} {A : Around} {E : Value → Shared → Prop} {s : Shared}
theorem loadName_ok {env : Env} {x : Str} {v : Value} {Q : Value → Shared → Prop} (hk : env.scope.kind = .function) (hx : Holds env s.heap x v) (hn : (x == ("__classdict__" : Str)) = false)
    (h : Q v s) : wpAny (model prog w) A (loadName env x) Q E s := by
  rcases hx with ⟨k, m, hns, hm⟩ | ⟨k, c, hc, hv⟩
  · exact wpAny_loadName_local hk k hns hm h
  · rcases k with k | k
    · exact wpAny_loadName_cell hk k hc hv h
    · exact wpAny_loadName_free hk k hc hv h hn
/-- a frame after a store of x -/
theorem store_ok {h₁ : Heap} {own : List Str} {env : Env} {O Mu : Addr → Prop} {ρ : Ro} {x : Str} {v : Value} {sl : Sl} {Q : Unit → Shared → Prop}
    (e : EnvOk h₁ own env O Mu s.heap) (f : FrOk env O Mu ρ s.heap) (hx : env.kindOf x = some .local ∨ x ∈ own) (hsl : SlotOk s.heap O Mu sl v)
    (hap : ∀ xs, sl = .own xs → ∀ y ys, y ≠ x → ρ.lookup y = some (.own ys) → ¬ Holds env s.heap y v)
    (h : ∀ s', Kp Mu (fun _ => False) s s' → s'.gens = s.gens → (s.heap.objs.size = s'.heap.objs.size ∧ (∀ b vs n, s.heap.get? b = some { cls := .type "list", data := .seq vs n } → s'.heap.get? b = some { cls := .type "list", data := .seq vs n }) ∧ Holds env s'.heap x v ∧ ∀ y u, y ≠ x → Holds env s.heap y u → Holds env s'.heap y u) → EnvOk h₁ own env O Mu s'.heap → FrOk env O Mu (put ρ x sl) s'.heap → Q () s') :
    wpAny (model prog w) A (storeName env x v) Q E s := by
  -- the common end
  have key : ∀ (h' : Heap) (tk : Nat) (a : Addr), (0 < s.toks → 0 < tk) → Mu a → Heap.SameBut a s.heap h' → (a = env.locals ∨ ∃ n, env.cells.lookup n = some a) → (∃ m, h'.Ns env.locals m) →
      (∀ n c, env.cells.lookup n = some c → ∃ v, h'.IsCell c v) → Holds env h' x v → (∀ y u, y ≠ x → Holds env s.heap y u → Holds env h' y u) → Q () { s with heap := h', toks := tk } := by
    intro h' tk a htk ha hs haw hns hcl hxv hoth
    have hnl : ∀ o, s.heap.get? a = some o → ∀ its n, o ≠ { cls := .type "list", data := .seq its n } := by
      intro o ho its n hc
      subst hc
      rcases haw with rfl | ⟨nm, hc⟩
      · obtain ⟨m, o', es, ep, h1, h2, _⟩ := e.ns
        rw [ho] at h1; cases h1; cases h2
      · obtain ⟨_, _, _, u, o', h1, h2⟩ := e.cells nm a hc
        rw [ho] at h1; cases h1; cases h2
    have hNC : NC s.heap a := by
      rcases haw with rfl | ⟨nm, hc⟩
      · obtain ⟨m, q⟩ := e.ns
        exact .ns q
      · obtain ⟨_, _, _, u, q⟩ := e.cells nm a hc
        exact .cell q
    have k : Kp Mu (fun _ => False) s { s with heap := h', toks := tk } :=
      ⟨fun b o _ hb q => (hs.2 b (fun z => hb (z ▸ ha))).trans q, Nat.le_of_eq hs.1.symm, fun ⟨vs, q⟩ => ⟨vs, (hs.2 _ (fun z => (e.muN _ ha).2 z.symm)).trans q⟩, Nat.le_refl _, fun _ _ _ q => q, fun q => q, rfl, htk, CodesOk.but (fun b o hb q => (hs.2 b hb).trans q) (e.muN _ ha).2 hNC⟩
    have hb : ∀ b, O b → b < h'.objs.size := fun b hb => by rw [hs.1]; exact e.bound b hb
    have hRd : ∀ {a' u}, Rd s.heap O a' u → Rd h' O a' u := fun r => r.kp k fun b hb => .inl (e.muO b hb)
    have hRdL : ∀ {a' u}, RdL s.heap O a' u → RdL h' O a' u := fun r => r.kp k fun b hb => .inl (e.muO b hb)
    have hSl : ∀ sl' u, SlotOk s.heap O Mu sl' u → SlotOk h' O Mu sl' u := by
      intro sl' u hs'
      cases sl' with
      | fz a' => exact hRd hs'
      | own xs =>
        obtain ⟨a', vs, n, h1, h2, h3, h4, h5⟩ := hs'
        exact ⟨a', vs, n, h1, h2, (hs.2 a' (fun z => hnl _ (z ▸ h3) _ _ rfl)).trans h3, h4, hRdL h5⟩
    refine h _ k rfl ⟨hs.1.symm, fun b vs n hb => (hs.2 b (fun z => hnl _ (z ▸ hb) _ _ rfl)).trans hb, hxv, hoth⟩ { e with ns := hns, cells := fun n c hc => ?_, bound := hb } ⟨fun y sl' hy => ?_, fun y z ys zs u hne hy hz hyu hzu => ?_⟩
    · obtain ⟨a1, a2, a3, _⟩ := e.cells n c hc
      exact ⟨a1, a2, a3, hcl n c hc⟩
    · rw [lookup_put] at hy
      by_cases hyx : y = x
      · subst hyx
        rw [if_pos rfl] at hy; cases hy
        exact ⟨v, hxv, hSl _ _ hsl⟩
      · rw [if_neg hyx] at hy
        obtain ⟨u, hu, hsu⟩ := f.at_ y _ hy
        exact ⟨u, hoth y u hyx hu, hSl _ _ hsu⟩
    · rw [lookup_put] at hy hz
      by_cases hyx : y = x
      · subst hyx
        rw [if_pos rfl] at hy; cases hy
        by_cases hzx : z = y
        · exact hne hzx.symm
        · rw [if_neg hzx] at hz
          obtain ⟨u', hu', _⟩ := f.at_ z _ hz
          have e1 := Holds.uniq (hoth z u' hzx hu') hzu
          have e2 := Holds.uniq hxv hyu
          subst e1; subst e2
          exact hap _ rfl z zs hzx hz hu'
      · rw [if_neg hyx] at hy
        obtain ⟨u', hu', _⟩ := f.at_ y _ hy
        have e1 := Holds.uniq (hoth y u' hyx hu') hyu
        subst e1
        by_cases hzx : z = x
        · subst hzx
          rw [if_pos rfl] at hz; cases hz
          have e2 := Holds.uniq hxv hzu
          subst e2
          exact hap _ rfl y ys hyx hy hu'
        · rw [if_neg hzx] at hz
          obtain ⟨u'', hu'', _⟩ := f.at_ z _ hz
          have e2 := Holds.uniq (hoth z u'' hzx hu'') hzu
          subst e2
          exact f.apart y z ys zs _ hne hy hz hu' hu''
  obtain ⟨m, hns⟩ := e.ns
  by_cases hl : env.kindOf x = some .local
  · refine wpAny_storeName_local hl hns (fun h' hn' hs' => ?_) (by rw [e.kind]; rfl)
    refine key h' _ env.locals (by first | assumption | (intro h; exact h) | (intro _; omega)) e.muL hs' (.inl rfl) ⟨_, hn'⟩ (fun n c hc => ?_) (.inl ⟨hl, _, hn', by simp⟩) fun y u hyx hy => ?_
    · obtain ⟨_, _, a3, u, hu⟩ := e.cells n c hc
      exact ⟨u, hu.sameBut hs' a3⟩
    · rcases hy with ⟨k, m', hm', hmy⟩ | ⟨k, c, hc, hu⟩
      · refine .inl ⟨k, _, hn', ?_⟩
        rw [if_neg hyx]
        obtain ⟨o1, es1, ep1, e1, d1, _, f1⟩ := hns
        obtain ⟨o2, es2, ep2, e2, d2, _, f2⟩ := hm'
        rw [e1] at e2; cases e2
        rw [d1] at d2; cases d2
        rw [← f1 y, f2 y]; exact hmy
      · obtain ⟨_, _, a3, _⟩ := e.cells y c hc
        exact .inr ⟨k, c, hc, hu.sameBut hs' a3⟩
  · have hown := hx.resolve_left hl
    obtain ⟨kc, hcs⟩ := e.ownC x hown
    obtain ⟨c, hc⟩ := Option.isSome_iff_exists.mp hcs
    obtain ⟨a1, a2, a3, u0, hu0⟩ := e.cells x c hc
    refine wpAny_storeName_cell e.kind kc hc hu0 fun h' hc' hs' => ?_
    refine key h' s.toks c (fun h => h) (e.muC x c hown hc) hs' (.inr ⟨x, hc⟩) ⟨m, hns.sameBut hs' (Ne.symm a3)⟩ (fun n c' hcn => ?_) (.inr ⟨.inl kc, c, hc, hc'⟩) fun y u hyx hy => ?_
    · by_cases hcc : c' = c
      · subst hcc; exact ⟨_, hc'⟩
      · obtain ⟨_, _, _, u, hu⟩ := e.cells n c' hcn
        exact ⟨u, hu.sameBut hs' hcc⟩
    · rcases hy with ⟨k, m', hm', hmy⟩ | ⟨k, c', hcy, hu⟩
      · exact .inl ⟨k, m', hm'.sameBut hs' (Ne.symm a3), hmy⟩
      · exact .inr ⟨k, c', hcy, hu.sameBut hs' fun z => hyx (e.apart y x c (z ▸ hcy) hc)⟩
end
/-- the common end: a value, the heap as it stands -/
noncomputable def Ends (O : Addr → Prop) (s : Shared) (r : AV) (v : Value) (s' : Shared) : Prop := K0 s s' ∧ Rd s'.heap O r v
noncomputable abbrev NoE : Value → Shared → Prop := fun _ _ => False
noncomputable def Tab (h : Heap) : Prop := ∃ vs, h.get? TA = some (tabObj vs)
theorem K0.toks {s : Shared} {tk : Nat} (htk : 0 < s.toks → 0 < tk) : K0 s { s with toks := tk } := ⟨fun _ _ _ _ e => e, Nat.le_refl _, fun e => e, Nat.le_refl _, fun _ _ _ e => e, fun e => e, rfl, htk, .refl⟩
theorem K0.tick {s : Shared} : K0 s { s with toks := s.toks + 1 } := .toks fun _ => Nat.succ_pos _
theorem K0.keep {s : Shared} {h' : Heap} {tk : Nat} (hk : ∀ b o, s.heap.get? b = some o → h'.get? b = some o) (hs : s.heap.objs.size ≤ h'.objs.size) (htk : 0 < s.toks → 0 < tk) : K0 s { s with heap := h', toks := tk } :=
  ⟨fun b x _ _ e => hk _ _ e, hs, fun ⟨vs, e⟩ => ⟨vs, hk _ _ e⟩, Nat.le_refl _, fun _ _ _ e => e, fun e => e, rfl, htk, CodesOk.all hk⟩
theorem K0.heap1 {s : Shared} {h' : Heap} (hk : ∀ b o, s.heap.get? b = some o → h'.get? b = some o) (hs : s.heap.objs.size ≤ h'.objs.size) : K0 s { s with heap := h' } := .keep hk hs fun h => h
theorem K0.push {s : Shared} {o : Obj} {tk : Nat} (htk : 0 < s.toks → 0 < tk) : K0 s { s with heap := s.heap.push o, toks := tk } :=
  .keep (fun _ _ e => Heap.get?_push_of_some _ e) (by rw [Heap.size_push]; exact Nat.le_succ _) htk
theorem K0.push1 {s : Shared} {o : Obj} : K0 s { s with heap := s.heap.push o } := .push fun h => h
theorem Ends.intT {O i t s tk} (htk : 0 < s.toks → 0 < tk) : Ends O s (.int i) (.int i t) { s with toks := tk } := ⟨.toks htk, ⟨_, rfl⟩⟩
theorem Ends.int {O i t s} : Ends O s (.int i) (.int i t) { s with toks := s.toks + 1 } := ⟨.tick, ⟨_, rfl⟩⟩
theorem Ends.int0 {O i t s} : Ends O s (.int i) (.int i t) s := ⟨.refl, ⟨_, rfl⟩⟩
theorem Ends.flt {O i t s} : Ends O s (.flt i) (.float i t) { s with toks := s.toks + 1 } := ⟨.tick, ⟨_, rfl⟩⟩
theorem Ends.strT {O i t s tk} (h : i.length ≤ sizeLine) (htk : 0 < s.toks → 0 < tk) : Ends O s (.str i) (.str i t) { s with toks := tk } := ⟨.toks htk, ⟨_, rfl, h⟩⟩
theorem Ends.str {O i t s} (h : i.length ≤ sizeLine) : Ends O s (.str i) (.str i t) { s with toks := s.toks + 1 } := .strT h fun _ => Nat.succ_pos _
theorem Ends.bool {O b s} : Ends O s (.bool b) (.bool b) s := ⟨.refl, rfl⟩
theorem Ends.trans {O : Addr → Prop} {s s' s'' : Shared} {r : AV} {v : Value} (k : K0 s s') (h : Ends O s' r v s'') : Ends O s r v s'' := ⟨k.trans h.1, h.2⟩
section
variable {h : Heap} {O : Addr → Prop} {G : Value → Prop} {v : Value}
@[elab_as_elim] theorem Rd.intE {i : Int} (r : Rd h O (.int i) v) (k : ∀ t, G (.int i t)) : G v := by
  obtain ⟨t, rfl⟩ := rd_int.mp r; exact k t
@[elab_as_elim] theorem Rd.fltE {i : UInt64} (r : Rd h O (.flt i) v) (k : ∀ t, G (.float i t)) : G v := by
  obtain ⟨t, rfl⟩ := rd_flt.mp r; exact k t
@[elab_as_elim] theorem Rd.strE {x : Str} (r : Rd h O (.str x) v) (k : ∀ t, x.length ≤ sizeLine → G (.str x t)) : G v := by
  obtain ⟨t, rfl, q⟩ := rd_str.mp r; exact k t q
@[elab_as_elim] theorem Rd.boolE {b : Bool} (r : Rd h O (.bool b) v) (k : G (.bool b)) : G v := rd_bool.mp r ▸ k
@[elab_as_elim] theorem Rd.noneE (r : Rd h O .none v) (k : G .none) : G v := rd_none.mp r ▸ k
/-- a sequence of the heap's -/
noncomputable def SeqAt (T : String) (h : Heap) (O : Addr → Prop) (xs : List AV) (a : Addr) (vs : Array Value) (n : Nat) : Prop := ¬ O a ∧ a ≠ TA ∧ h.get? a = some { cls := .type T, data := .seq vs n } ∧ vs.size ≤ sizeLine ∧ RdL h O xs vs.toList
@[elab_as_elim] theorem Rd.listE {xs : List AV} (r : Rd h O (.list xs) v) (k : ∀ a vs n, SeqAt "list" h O xs a vs n → G (.ref a)) : G v := by
  obtain ⟨a, vs, n, rfl, q⟩ := rd_list.mp r; exact k a vs n q
@[elab_as_elim] theorem Rd.tupE {xs : List AV} (r : Rd h O (.tup xs) v) (k : ∀ a vs n, SeqAt "tuple" h O xs a vs n → G (.ref a)) : G v := by
  obtain ⟨a, vs, n, rfl, q⟩ := rd_tup.mp r; exact k a vs n q
theorem SeqAt.list {xs a vs n} (q : SeqAt "list" h O xs a vs n) : Rd h O (.list xs) (.ref a) := rd_list.mpr ⟨a, vs, n, rfl, q⟩
theorem SeqAt.tup {xs a vs n} (q : SeqAt "tuple" h O xs a vs n) : Rd h O (.tup xs) (.ref a) := rd_tup.mpr ⟨a, vs, n, rfl, q⟩
theorem SeqAt.isL {xs a vs n} (q : SeqAt "list" h O xs a vs n) : h.IsList a vs := ⟨_, q.2.2.1, rfl, n, rfl⟩
theorem SeqAt.isT {xs a vs n} (q : SeqAt "tuple" h O xs a vs n) : h.IsTuple a vs := ⟨_, q.2.2.1, rfl, n, rfl⟩
theorem SeqAt.len {T xs a vs n} (q : SeqAt T h O xs a vs n) : vs.size = xs.length := Array.length_toList.symm.trans q.2.2.2.2.length
theorem SeqAt.item {T xs a vs n} (q : SeqAt T h O xs a vs n) {i : Nat} {x} (e : xs[i]? = some x) : ∃ v, vs[i]? = some v ∧ Rd h O x v :=
  (q.2.2.2.2.get e).elim fun v z => ⟨v, Array.getElem?_toList ▸ z.1, z.2⟩
variable {G : List Value → Prop} {vs : List Value}
@[elab_as_elim] theorem RdL.nilE (r : RdL h O [] vs) (k : G []) : G vs := rdl_nil.mp r ▸ k
@[elab_as_elim] theorem RdL.consE {x : AV} {xs : List AV} (r : RdL h O (x :: xs) vs) (k : ∀ v ws, Rd h O x v → RdL h O xs ws → G (v :: ws)) : G vs := by
  obtain ⟨v, ws, rfl, q1, q2⟩ := rdl_cons.mp r; exact k v ws q1 q2
@[elab_as_elim] theorem RdL.oneE {x : AV} (r : RdL h O [x] vs) (k : ∀ v, Rd h O x v → G [v]) : G vs := r.consE fun v ws q1 q2 => q2.nilE (G := fun ws => G (v :: ws)) (k v q1)
@[elab_as_elim] theorem RdL.twoE {x y : AV} (r : RdL h O [x, y] vs) (k : ∀ v u, Rd h O x v → Rd h O y u → G [v, u]) : G vs := r.consE fun v ws q1 q2 => q2.oneE (G := fun ws => G (v :: ws)) fun u q => k v u q1 q
@[elab_as_elim] theorem RdL.threeE {x y z : AV} (r : RdL h O [x, y, z] vs) (k : ∀ v u t, Rd h O x v → Rd h O y u → Rd h O z t → G [v, u, t]) : G vs := r.consE fun v ws q1 q2 => q2.twoE (G := fun ws => G (v :: ws)) fun u t q q' => k v u t q1 q q'
end
theorem TA_lt {h : Heap} (ht : Tab h) : TA < h.objs.size := ht.elim fun _ e => Heap.lt_size e
section
variable {s : Shared} {O : Addr → Prop}
/-- a new sequence -/
theorem newSeq {T : String} {xs : List AV} {vs : List Value} (r : RdL s.heap O xs vs) (hb : ∀ b, O b → b < s.heap.objs.size) (ht : Tab s.heap) (hz : vs.length ≤ sizeLine) : SeqAt T (s.heap.push { cls := .type T, data := .seq vs.toArray }) O xs s.heap.objs.size vs.toArray 0 :=
  ⟨fun h => Nat.lt_irrefl _ (hb _ h), Nat.ne_of_gt (TA_lt ht), Heap.get?_push_size _ rfl, hz, r.k0 (K0.push1 (s := s))⟩
theorem newList_ok {xs : List AV} {vs : List Value} {tk : Nat} (r : RdL s.heap O xs vs) (hb : ∀ b, O b → b < s.heap.objs.size) (ht : Tab s.heap) (hz : vs.length ≤ sizeLine) (htk : 0 < s.toks → 0 < tk) :
    Ends O s (.list xs) (.ref s.heap.objs.size) { s with heap := s.heap.push { cls := .type "list", data := .seq vs.toArray }, toks := tk } := ⟨.push htk, (newSeq r hb ht hz).list⟩
theorem newTup_ok {xs : List AV} {vs : List Value} {tk : Nat} (r : RdL s.heap O xs vs) (hb : ∀ b, O b → b < s.heap.objs.size) (ht : Tab s.heap) (hz : vs.length ≤ sizeLine) (htk : 0 < s.toks → 0 < tk) :
    Ends O s (.tup xs) (.ref s.heap.objs.size) { s with heap := s.heap.push { cls := .type "tuple", data := .seq vs.toArray }, toks := tk } := ⟨.push htk, (newSeq r hb ht hz).tup⟩
end
/-- a binary operation comes to a value -/
structure BinOk (op : Operator) (a b r : AV) : Prop where
  ok : ∀ {prog w A O s va vb}, Rd s.heap O a va → Rd s.heap O b vb → (∀ b, O b → b < s.heap.objs.size) → Tab s.heap → wpAny (model prog w) A (binaryOp op va vb) (Ends O s r) NoE s
theorem bin_II {op a b r} (H : ∀ prog w A O s t u, wpAny (model prog w) A (binaryOp op (.int a t) (.int b u)) (Ends O s r) NoE s) : BinOk op (.int a) (.int b) r := .mk fun r1 r2 _ _ => r1.intE fun t => r2.intE fun u => H _ _ _ _ _ t u
theorem bin_FF {op a b r} (H : ∀ prog w A O s t u, wpAny (model prog w) A (binaryOp op (.float a t) (.float b u)) (Ends O s r) NoE s) : BinOk op (.flt a) (.flt b) r := .mk fun r1 r2 _ _ => r1.fltE fun t => r2.fltE fun u => H _ _ _ _ _ t u
theorem mulOk_of {a b : Int} (h : a.natAbs < 2 ^ 63 ∨ b.natAbs < 2 ^ 63) : IntMulOk a b :=
  h.elim (fun h => IntMulOk.of_left (intBits_le_64 (by omega) (by omega))) fun h => IntMulOk.of_right (intBits_le_64 (by omega) (by omega))
theorem fits_of {b : Int} (h : b.natAbs < 2 ^ 63) : b.natAbs < 2 ^ 1023 := Nat.lt_trans h (Nat.pow_lt_pow_right (by decide) (by decide))
theorem bin_addI {a b : Int} : BinOk .Add (.int a) (.int b) (.int (a + b)) := bin_II fun _ _ _ _ _ _ _ => add_int .int
theorem bin_addF {a b} : BinOk .Add (.flt a) (.flt b) (.flt (Float64.add a b)) := bin_FF fun _ _ _ _ _ _ _ => add_float .flt
theorem bin_addS {x y : Str} (h : x.length + y.length ≤ sizeLine) : BinOk .Add (.str x) (.str y) (.str (x ++ y)) := .mk fun r1 r2 _ _ => r1.strE fun t _ => r2.strE fun u _ =>
  with_tk (add_str (fun _ _ htk => .strT (Str.length_append _ _ ▸ h) htk) h)
theorem bin_addL {xs ys : List AV} (h : xs.length + ys.length ≤ sizeLine) : BinOk .Add (.list xs) (.list ys) (.list (xs ++ ys)) := .mk fun r1 r2 hO ht => r1.listE fun l vs n q1 => r2.listE fun l2 vs2 n2 q2 => by
  have hz : vs.size + vs2.size ≤ sizeLine := q1.len ▸ q2.len ▸ h
  refine concat_meets ⟨_, q1.2.2.1, rfl⟩ ⟨_, q2.2.2.1, rfl⟩ noFill_list_add seq_list_add PySem.F.slot_list_add PySem.F.entry_list_add (PySem.F.args_list_add_2 _ _) (list_addW l l2 vs vs2 n n2 none none #[] #[] hz) ⟨q1.2.2.1, q2.2.2.1, ?_⟩
  have z := newList_ok (tk := _) (q1.2.2.2.2.append q2.2.2.2.2) hO ht (by rw [List.length_append]; exact hz) fun h => h
  have e3 : (vs.toList ++ vs2.toList).toArray = vs ++ vs2 := by simp
  rw [e3] at z
  exact z
theorem bin_subI {a b : Int} : BinOk .Sub (.int a) (.int b) (.int (a - b)) := bin_II fun _ _ _ _ _ _ _ => sub_int .int
theorem bin_subF {a b} : BinOk .Sub (.flt a) (.flt b) (.flt (Float64.sub a b)) := bin_FF fun _ _ _ _ _ _ _ => sub_float .flt
theorem bin_mulI {a b : Int} (h : a.natAbs < 2 ^ 63 ∨ b.natAbs < 2 ^ 63) : BinOk .Mult (.int a) (.int b) (.int (a * b)) := bin_II fun _ _ _ _ _ _ _ => mul_int .int (mulOk_of h)
theorem bin_mulF {a b} : BinOk .Mult (.flt a) (.flt b) (.flt (Float64.mul a b)) := bin_FF fun _ _ _ _ _ _ _ => mul_float .flt
theorem bin_mulFI {a} {b : Int} (h : b.natAbs < 2 ^ 63) : BinOk .Mult (.flt a) (.int b) (.flt (Float64.mul a (Float64.ofInt b))) := .mk fun r1 r2 _ _ => r1.fltE fun t => r2.intE fun u => mul_fi_fits (fits_of h) .flt
theorem bin_divF {a b} (h : Float64.isZero b = false) : BinOk .Div (.flt a) (.flt b) (.flt (Float64.div a b)) := bin_FF fun _ _ _ _ _ _ _ => AutoFloatOps.truediv_1 (by rw [h]; decide) .flt
noncomputable def divII (a b : Int) : UInt64 := Float64.ofFrac (decide (a < 0) != decide (b < 0)) a.natAbs b.natAbs
theorem bin_divI {a b : Int} (h : (b == 0) = false) (h2 : Float64.isInf (divII a b) = false) : BinOk .Div (.int a) (.int b) (.flt (divII a b)) := bin_II fun _ _ _ _ _ _ _ => AutoIntOps.truediv_2 (by rw [h]; decide) (fun e => Bool.noConfusion (h2.symm.trans e)) .flt
theorem bin_fdiv {a b : Int} (h : b ≠ 0) (h2 : b.natAbs < 1073741824) : BinOk .FloorDiv (.int a) (.int b) (.int (a.fdiv b)) := bin_II fun _ _ _ _ _ _ _ => floordiv_int h .int (.inl (PyProof.noPylong_small h2))
theorem bin_mod {a b : Int} (h : b ≠ 0) : BinOk .Mod (.int a) (.int b) (.int (a.fmod b)) := bin_II fun _ _ _ _ _ _ _ => mod_int' h .int
theorem bin_modF {a b} (h : Float64.isZero b = false) : BinOk .Mod (.flt a) (.flt b) (.flt (Float64.divmod a b).snd) := bin_FF fun _ _ _ _ _ _ _ => AutoFloatOps.mod_1 (by rw [h]; decide) .flt
theorem bin_pow {a b : Int} (h : 0 ≤ b ∧ b ≤ 1000000 ∧ a.natAbs < 2 ^ 63) : BinOk .Pow (.int a) (.int b) (.int (a ^ b.toNat)) := bin_II fun _ _ _ _ _ _ _ => pow_int_small h.1 h.2.1 (Nat.lt_trans h.2.2 (by decide)) .int
theorem bin_and {a b : Int} : BinOk .BitAnd (.int a) (.int b) (.int (Builtin.bitAnd a b)) := bin_II fun _ _ _ _ _ _ _ => and_int .int
theorem bin_shr {a b : Int} (h : 0 ≤ b) : BinOk .RShift (.int a) (.int b) (.int (a.fdiv (2 ^ b.toNat))) := bin_II fun _ _ _ _ _ _ _ => rshift_int h .int
noncomputable def repS (x : Str) (n : Int) : Str := ⟨(List.replicate n.toNat x.cps).foldl (· ++ ·) #[]⟩
theorem bin_mulS {x : Str} {n : Int} (h : 2 ≤ n ∧ n ≤ 1000 ∧ 1 ≤ x.length ∧ x.length ≤ 1000) : BinOk .Mult (.str x) (.int n) (.str (repS x n)) := .mk fun r1 r2 _ _ => r1.strE fun t _ => r2.intE fun u => by
  obtain ⟨z1, z2, z3, z4⟩ := h
  have hl : Builtin.Str.tooLong (x.length * n.toNat) = false := by
    unfold Builtin.Str.tooLong
    rw [sizeLine_eq]
    refine decide_eq_false ?_
    have := Nat.mul_le_mul z4 (show n.toNat ≤ 1000 by omega)
    omega
  have hok : MulOk x n := by
    refine ⟨Bool.or_eq_false_iff.mpr ⟨decide_eq_false (by omega), decide_eq_false (by omega)⟩, fun _ _ => ?_, fun _ _ => hl⟩
    have h3 : (x.length : Int) ≤ (2 ^ 63 - 1) / n := by
      rw [Int.le_ediv_iff_mul_le (by omega)]
      have := Int.mul_le_mul (show (x.length : Int) ≤ 1000 by omega) z2 (by omega) (by omega)
      omega
    omega
  have e : Txt.mul x n = repS x n := by
    unfold Txt.mul
    rw [if_neg (by omega), if_neg (by rw [Bool.or_eq_false_iff.mpr ⟨beq_eq_false_iff_ne.mpr (by omega), beq_eq_false_iff_ne.mpr (by omega)⟩]; decide)]; rfl
  refine with_tk (SB.mul hok fun t' k htk => ?_)
  rw [e]
  exact .strT (fits_reps hl) htk
/-- plain data behind a value -/
structure DA (n : Nat) (a : AV) (d : PyData) : Prop where
  rd : ∀ {h O v}, Rd h O a v → ∃ as, Reads h v d as
  lay : d.canLay0 = true
  dep : d.depth ≤ n
  self : PyData.eqv d d = true
structure DL (n : Nat) (xs : List AV) (ds : List PyData) : Prop where
  rd : ∀ {h O vs}, RdL h O xs vs → ∃ as, ReadsAll h vs ds as
  lay : PyData.canLayAll0 ds = true
  dep : PyData.depthAll ds ≤ n
  self : PyData.eqvAll ds ds = true
theorem DA.none {n} : DA n .none .none := ⟨fun r => r.noneE (G := fun v => ∃ as, Reads _ v _ as) ⟨_, .none⟩, rfl, Nat.zero_le _, rfl⟩
theorem DA.int {n i} : DA n (.int i) (.int i) := ⟨fun r => r.intE (G := fun v => ∃ as, Reads _ v _ as) fun t => ⟨_, .int _ _⟩, rfl, Nat.zero_le _, by rw [PyData.eqv]; exact beq_self_eq_true i⟩
theorem DA.str {n x} (h : PyData.strOk x = true) : DA n (.str x) (.str x) := ⟨fun r => r.strE (G := fun v => ∃ as, Reads _ v _ as) fun t _ => ⟨_, .str _ _⟩, by rw [PyData.canLay0]; exact h, Nat.zero_le _, by rw [PyData.eqv]; exact beq_self_eq_true x⟩
theorem DL.nil {n} : DL n [] [] := ⟨fun r => r.nilE (G := fun vs => ∃ as, ReadsAll _ vs _ as) ⟨_, .nil⟩, rfl, Nat.zero_le _, rfl⟩
theorem DL.cons {n x xs d ds} (a : DA n x d) (b : DL n xs ds) : DL n (x :: xs) (d :: ds) :=
  ⟨fun r => r.consE (G := fun vs => ∃ as, ReadsAll _ vs _ as) fun v ws q1 q2 => (a.rd q1).elim fun as z => (b.rd q2).elim fun bs y => ⟨_, .cons z y⟩, by rw [PyData.canLayAll0, a.lay, b.lay]; rfl, by rw [PyData.depthAll]; exact Nat.max_le.mpr ⟨a.dep, b.dep⟩, by rw [PyData.eqvAll, a.self, b.self]; rfl⟩
theorem DL.map {α : Type} {n : Nat} {f : α → AV} {g : α → PyData} : ∀ {l : List α}, (∀ x ∈ l, DA n (f x) (g x)) → DL n (l.map f) (l.map g)
  | [], _ => .nil
  | x :: l, h => .cons (h x List.mem_cons_self) (DL.map fun y hy => h y (List.mem_cons_of_mem _ hy))
theorem DL.ints {n} (l : List Int) : DL n (l.map .int) (l.map .int) := .map fun _ _ => .int
theorem DL.strs {n} {l : List Str} (h : ∀ x ∈ l, PyData.strOk x = true) : DL n (l.map .str) (l.map .str) := .map fun x hx => .str (h x hx)
theorem DA.list {n xs ds} (a : DL n xs ds) : DA (n + 1) (.list xs) (.list ds) :=
  ⟨fun r => r.listE (G := fun v => ∃ as, Reads _ v _ as) fun l vs m q => (a.rd q.2.2.2.2).elim fun as z => ⟨_, .list q.2.2.1 rfl rfl z⟩, by rw [PyData.canLay0]; exact a.lay, by rw [PyData.depth]; exact Nat.succ_le_succ a.dep, by rw [PyData.eqv]; exact a.self⟩
theorem DA.tup {n xs ds} (a : DL n xs ds) : DA (n + 1) (.tup xs) (.tuple ds) :=
  ⟨fun r => r.tupE (G := fun v => ∃ as, Reads _ v _ as) fun l vs m q => (a.rd q.2.2.2.2).elim fun as z => ⟨_, .tuple q.2.2.1 rfl rfl z⟩, by rw [PyData.canLay0]; exact a.lay, by rw [PyData.depth]; exact Nat.succ_le_succ a.dep, by rw [PyData.eqv]; exact a.self⟩
theorem DA.sh {n a d} (h : DA n a d) (hn : n ≤ 60) : SeqAt.shaped d = true := Bool.and_eq_true_iff.mpr ⟨h.lay, decide_eq_true (Nat.le_trans h.dep (Nat.le_trans hn (by decide)))⟩
/-- a comparison comes to a truth -/
structure CmpOk (op : CmpOp) (a b : AV) (r : Bool) : Prop where
  ok : ∀ {prog w A O s va vb} {Q : Value → Shared → Prop}, Rd s.heap O a va → Rd s.heap O b vb → A.units + 80 < cLine → Q (.bool r) s → wpAny (model prog w) A (compareOp op va vb) Q NoE s
theorem u64 {A : Around} (h : A.units + 80 < cLine) : A.units + 64 < cLine := Nat.lt_of_le_of_lt (Nat.add_le_add_left (by decide) _) h
theorem cmp_eqD {n a b da db} (h1 : DA n a da) (h2 : DA n b db) (hn : n ≤ 60) : CmpOk .Eq a b (PyData.eqv da db) := .mk fun ra rb hu h => (h1.rd ra).elim fun _ ra => (h2.rd rb).elim fun _ rb => SeqAt.compareEq_shaped ra rb (h1.sh hn) (h2.sh hn) (u64 hu) h
theorem cmp_neD {n a b da db} (h1 : DA n a da) (h2 : DA n b db) (hn : n ≤ 60) : CmpOk .NotEq a b (!PyData.eqv da db) := .mk fun ra rb hu h => (h1.rd ra).elim fun _ ra => (h2.rd rb).elim fun _ rb => SeqAt.compareNe_shaped ra rb (h1.sh hn) (h2.sh hn) (u64 hu) h
theorem units_in {A : Around} {n a : Nat} {ds : List PyData} (hu : A.units + 80 < cLine) (h : a ≤ n) (hn : n ≤ 60) : A.units + 1 + min (PyData.depthAll ds) a < cLine :=
  Nat.lt_of_le_of_lt (by rw [Nat.add_assoc]; exact Nat.add_le_add_left (Nat.le_trans (Nat.add_le_add_left (Nat.le_trans (Nat.min_le_right _ _) (Nat.le_trans h hn)) 1) (by decide)) _) hu
theorem cmp_inD {n a xs d ds} (h1 : DA n a d) (h2 : DL n xs ds) (hn : n ≤ 60) : CmpOk .In a (.list xs) (ds.any fun y => PyData.eqv y d) := .mk fun ra rb hu h => (h1.rd ra).elim fun _ ra => ((DA.list h2).rd rb).elim fun _ rb =>
  SeqAt.in_list_reads rb ra h2.lay h1.lay (units_in hu h1.dep hn) h
theorem cmp_niD {n a xs d ds} (h1 : DA n a d) (h2 : DL n xs ds) (hn : n ≤ 60) : CmpOk .NotIn a (.list xs) (!ds.any fun y => PyData.eqv y d) := .mk fun ra rb hu h => (h1.rd ra).elim fun _ ra => ((DA.list h2).rd rb).elim fun _ rb =>
  SeqAt.notIn_list_reads rb ra h2.lay h1.lay (units_in hu h1.dep hn) h
theorem cmp_eqI {a b : Int} : CmpOk .Eq (.int a) (.int b) (a == b) := by
  have this : CmpOk .Eq (.int a) (.int b) (PyData.eqv (.int a) (.int b)) := cmp_eqD (n := 0) .int .int (Nat.zero_le _)
  rwa [PyData.eqv] at this
theorem cmp_eqS {a b : Str} (ha : PyData.strOk a = true) (hb : PyData.strOk b = true) : CmpOk .Eq (.str a) (.str b) (a == b) := by
  have this : CmpOk .Eq (.str a) (.str b) (PyData.eqv (.str a) (.str b)) := cmp_eqD (n := 0) (.str ha) (.str hb) (Nat.zero_le _)
  rwa [PyData.eqv] at this
theorem cmp_eqR {a b : AV} {d n} (e : a = b) (h : DA n a d) (hn : n ≤ 60) : CmpOk .Eq a b true := by
  subst e
  have this : CmpOk .Eq a a (PyData.eqv d d) := cmp_eqD h h hn
  rwa [h.self] at this
theorem cmp_neR {a b : AV} {d n} (e : a = b) (h : DA n a d) (hn : n ≤ 60) : CmpOk .NotEq a b false := by
  subst e
  have this : CmpOk .NotEq a a (!PyData.eqv d d) := cmp_neD h h hn
  rwa [h.self] at this
theorem any_int (i : Int) : ∀ l : List Int, ((l.map PyData.int).any fun y => PyData.eqv y (.int i)) = l.contains i
  | [] => rfl
  | x :: l => by
    rw [List.map_cons, List.any_cons, List.contains_cons, any_int i l, PyData.eqv]
    congr 1
    exact Bool.eq_iff_iff.mpr ⟨fun h => beq_iff_eq.mpr (beq_iff_eq.mp h).symm, fun h => beq_iff_eq.mpr (beq_iff_eq.mp h).symm⟩
theorem cmp_inI {i : Int} {l : List Int} : CmpOk .In (.int i) (.list (l.map .int)) (l.contains i) := by
  rw [← any_int i l]
  exact cmp_inD (n := 0) .int (.ints l) (Nat.zero_le _)
theorem cmp_niI {i : Int} {l : List Int} : CmpOk .NotIn (.int i) (.list (l.map .int)) (!l.contains i) := by
  rw [← any_int i l]
  exact cmp_niD (n := 0) .int (.ints l) (Nat.zero_le _)
theorem cmp_inNone {n xs ds} (h : DL n xs ds) (hn : n ≤ 60) (hd : (ds.any fun y => PyData.eqv y .none) = false) : CmpOk .In .none (.list xs) false := by
  rw [← hd]
  exact cmp_inD .none h hn
theorem cmp_inS {x y : Str} : CmpOk .In (.str y) (.str x) (!(Builtin.Str.occurrences x y 0 x.length 1).isEmpty) := .mk fun ra rb _ h => ra.strE fun _ _ => rb.strE fun _ _ => PySem.P.in_str h
theorem cmp_niS {x y : Str} : CmpOk .NotIn (.str y) (.str x) (!!(Builtin.Str.occurrences x y 0 x.length 1).isEmpty) := .mk fun ra rb _ h => ra.strE fun _ _ => rb.strE fun _ _ => PySem.P.notIn_str h
theorem cmp_ltI {a b : Int} : CmpOk .Lt (.int a) (.int b) (decide (a < b)) := .mk fun ra rb _ h => ra.intE fun _ => rb.intE fun _ => lt_int h
theorem cmp_leI {a b : Int} : CmpOk .LtE (.int a) (.int b) (decide (a ≤ b)) := .mk fun ra rb _ h => ra.intE fun _ => rb.intE fun _ => le_int h
theorem cmp_gtI {a b : Int} : CmpOk .Gt (.int a) (.int b) (decide (b < a)) := .mk fun ra rb _ h => ra.intE fun _ => rb.intE fun _ => gt_int h
noncomputable def ltF (a b : UInt64) : Bool := Float64.cmp a b == some Ordering.lt
noncomputable def eqF (a b : UInt64) : Bool := Float64.cmp a b == some Ordering.eq
noncomputable def leF (a b : UInt64) : Bool := ltF a b || eqF a b
theorem cmp_ltF {a b} : CmpOk .Lt (.flt a) (.flt b) (ltF a b) := .mk fun ra rb _ h => ra.fltE fun _ => rb.fltE fun _ => AutoFloatOps.lt_0 h
theorem cmp_leF {a b} : CmpOk .LtE (.flt a) (.flt b) (leF a b) := .mk fun ra rb _ h => ra.fltE fun _ => rb.fltE fun _ => AutoFloatOps.le_0 h
theorem cmp_eqF {a b} : CmpOk .Eq (.flt a) (.flt b) (eqF a b) := .mk fun ra rb _ h => ra.fltE fun _ => rb.fltE fun _ => AutoFloatOps.eq_0 h
theorem cmp_isN : CmpOk .Is .none .none true := .mk fun ra rb _ h => ra.noneE (rb.noneE (wpAny_is_plain rfl h))
theorem cmp_isI {a : Int} : CmpOk .Is (.int a) .none false := .mk fun ra rb _ h => ra.intE fun _ => rb.noneE (wpAny_is_plain rfl h)
structure L where
  prog : Program
  w : World
  h : Heap
  d : Nat
@[reducible] noncomputable def L.M (l : L) : Model := model l.prog l.w
theorem upd_size (h : Heap) (a : Addr) (f : Obj → Obj) : (h.update a f).objs.size = h.objs.size := by
  exact (Heap.SameBut.update h a f).1
theorem runs_size {M : Model} {Γ : Ctx} {p : Pos} {t : Sem Fin} {fs : List Frame} {s s' : Shared} {e : End} (h : Runs M Γ p t fs s e s') : s.heap.objs.size ≤ s'.heap.objs.size := by
  induction h <;> (try simp only [Shared.setGen, Heap.size_push, upd_size] at *) <;> (try omega)
theorem returns_size {M : Model} {Γ : Ctx} {p : Pos} {s s' : Shared} {r : Result} (h : Returns M Γ p s r s') : s.heap.objs.size ≤ s'.heap.objs.size := runs_size h
theorem wakes_size {M : Model} {Γ : Ctx} {p : Pos} {g : Nat} {r : Resume} {s s' : Shared} {res : GenResult} (h : Wakes M Γ p g r s res s') : s.heap.objs.size ≤ s'.heap.objs.size := by
  unfold Wakes at h
  split at h
  · exact h.elim
  · split at h
    · obtain ⟨e₁, s₁, hr, _, _, rfl⟩ := h; exact (runs_size hr : (s.setGen g .running).heap.objs.size ≤ s₁.heap.objs.size)
    · rw [h.2]; exact Nat.le_refl _
    · rw [h.2]; exact Nat.le_refl _
  · obtain ⟨e₁, s₁, hr, _, _, rfl⟩ := h; exact (runs_size hr : (s.setGen g .running).heap.objs.size ≤ s₁.heap.objs.size)
  · rw [h.2]; exact Nat.le_refl _
  · rw [h.2]; exact Nat.le_refl _
open Sem in
theorem wp_size {α : Type} (M : Model) (Γ : Ctx) (n : Nat) (t : Sem α) : ∀ (Q : α → Pos → Shared → Prop) (E : Value → Pos → Shared → Prop) (p : Pos) (s : Shared), n ≤ s.heap.objs.size → wp M Γ t Q E p s →
    wp M Γ t (fun a p' s' => n ≤ s'.heap.objs.size ∧ Q a p' s') (fun e p' s' => n ≤ s'.heap.objs.size ∧ E e p' s') p s := by
  induction t with
  | pure a => intro Q E p s hn h; exact ⟨hn, h⟩
  | raise e => intro Q E p s hn h; exact ⟨hn, h⟩
  | unsupported _ => intro Q E p s _ h; exact h
  | finish _ => intro Q E p s _ h; exact h
  | rule _ k ih => intro Q E p s hn h; exact ih () Q E p s hn h
  | «at» p' k ih => intro Q E p s hn h; exact ih () Q E p' s hn h
  | load a _ k ih => intro Q E p s hn h; obtain ⟨o, ho, h⟩ := h; exact ⟨o, ho, ih o Q E p s hn h⟩
  | update a _ f k ih => intro Q E p s hn h; exact ⟨h.1, ih () Q E p _ (by rw [upd_size]; exact hn) h.2⟩
  | loadIfAlive a k ih => intro Q E p s hn h; exact ih _ Q E p s hn h
  | point _ k ih => intro Q E p s hn h; exact ih () Q E p s hn h
  | register _ _ => intro Q E p s _ h; exact h
  | alloc o k ih => intro Q E p s hn h; exact ih _ Q E p _ (by rw [Heap.size_push]; omega) h
  | fresh k ih => intro Q E p s hn h; exact ih _ Q E p _ hn h
  | ask k ih => intro Q E p s hn h; exact ih _ Q E p s hn h
  | choose src m k ih => intro Q E p s hn h; exact ⟨h.1, ih _ Q E p _ hn h.2⟩
  | os q _ k ih => intro Q E p s hn h; exact ih _ Q E p _ hn h
  | call c hd _ _ k ih => intro Q E p s hn h; obtain ⟨r, s', hr, h⟩ := h; exact ⟨r, s', hr, ih r Q E p s' (Nat.le_trans hn (returns_size hr)) h⟩
  | handled own k ih => intro Q E p s hn h; exact ih _ Q E p s hn h
  | genState g k ih => intro Q E p s hn h; obtain ⟨st, hs, h⟩ := h; exact ⟨st, hs, ih _ Q E p s hn h⟩
  | newGen c k ih => intro Q E p s hn h; exact ih _ Q E p _ hn h
  | resume g r _ k ih => intro Q E p s hn h; obtain ⟨res, s', hw, h⟩ := h; exact ⟨res, s', hw, ih res Q E p s' (Nat.le_trans hn (wakes_size hw)) h⟩
  | yield _ _ _ _ => intro Q E p s _ h; exact h
  | stack k ih => intro Q E p s hn h; exact ih _ Q E p s hn h
  | fork _ _ => intro Q E p s _ h; exact h
  | thread k ih => intro Q E p s hn h; exact ih _ Q E p s hn h
  | await _ _ _ _ _ => intro Q E p s _ h; exact h
theorem with_size {α : Type} {M : Model} {A : Around} {s : Shared} {t : Sem α} {Q : α → Shared → Prop} {E : Value → Shared → Prop}
    (h : wpAny M A t (fun a s' => s.heap.objs.size ≤ s'.heap.objs.size → Q a s') E s) : wpAny M A t Q E s :=
  fun Γ p hΓ => by
    have h2 := wp_size M Γ s.heap.objs.size t (fun a _ s' => s.heap.objs.size ≤ s'.heap.objs.size → Q a s') (fun e _ s' => E e s') p s (Nat.le_refl _) (h Γ p hΓ)
    exact Sem.wp_mono M Γ t (fun _ _ _ q => q.2 q.1) (fun _ _ _ q => q.2) p s h2
/-- what a loop leaves alone -/
structure Fut (N Ng : Nat) (Mu : Addr → Prop) (s s' : Shared) : Prop where
  heap : ∀ b o, b < N → ¬ Mu b → b ≠ TA → s.heap.get? b = some o → s'.heap.get? b = some o
  gens : ∀ g x, g < Ng → s.gens[g]? = some x → s'.gens[g]? = some x
theorem Fut.of {N Ng Mu W Gs s s'} (k : Kp W Gs s s') (hW : ∀ b, W b → Mu b ∨ N ≤ b) (hG : ∀ g, Gs g → Ng ≤ g) : Fut N Ng Mu s s' :=
  ⟨fun b o h1 h2 h3 e => k.heap b o h3 (fun w => (hW b w).elim h2 (fun q => Nat.lt_irrefl _ (Nat.lt_of_lt_of_le h1 q))) e, fun g x h e => k.gens g x (fun q => Nat.lt_irrefl _ (Nat.lt_of_lt_of_le h (hG g q))) e⟩
/-- an iterator and what it will hand out -/
structure IsIter (l : L) (A : Around) (tgt : Expr) (it : Value) (xs : List AV) (W : Addr → Prop) (Gs : Nat → Prop) (O Mu : Addr → Prop) (s₀ : Shared) (St : Nat → Shared → Prop) : Prop where
  start : St 0 s₀
  stay : ∀ i s s', St i s → Fut s₀.heap.objs.size s₀.gens.size Mu s s' → St i s'
  item : ∀ i x s, xs[i]? = some x → St i s → Base l.h s.heap → s₀.heap.objs.size ≤ s.heap.objs.size → wpAny l.M A (pyNext it) (fun r s' => ∃ v, r = some v ∧ wpAny l.M A (letOwnedTupleGo tgt it v) (fun _ s'' =>
    Rd s''.heap (fun b => O b ∨ W b ∨ (s₀.heap.objs.size ≤ b ∧ b < s.heap.objs.size)) x v ∧ St (i + 1) s'' ∧ Kp W Gs s s'') NoE s') NoE s
  done : ∀ s, St xs.length s → Base l.h s.heap → wpAny l.M A (pyNext it) (fun r s' => r = none ∧ Kp W Gs s s') NoE s
  self : ∀ i s, St i s → wpAny l.M A (pyIter it) (fun r s' => r = it ∧ s' = s) NoE s
  low : ∀ b, W b → b < s₀.heap.objs.size
/-- all old stands but for a list of addresses -/
theorem Kp.of_wr {s : Shared} {h' : Heap} {tk : Nat} {wr : List Addr} (hk : ∀ b o, b ∉ wr → s.heap.get? b = some o → h'.get? b = some o) (hs : s.heap.objs.size ≤ h'.objs.size) (hT : TA ∉ wr) (hnc : ∀ b ∈ wr, NC s.heap b) (htk : 0 < s.toks → 0 < tk) :
    Kp (fun b => b ∈ wr) (fun _ => False) s { s with heap := h', toks := tk } :=
  ⟨fun b o _ h1 e => hk b o h1 e, hs, fun ⟨vs, e⟩ => ⟨vs, hk _ _ hT e⟩, Nat.le_refl _, fun _ _ _ e => e, fun e => e, rfl, htk, CodesOk.step (hk TA · hT) fun b o _ e => by
    by_cases q : b ∈ wr
    · exact .inr (hnc b q)
    · exact .inl (hk b o q e)⟩
section
variable {l : L} {A : Around}
/-- an iterator's state, and what stood as it was made -/
noncomputable def Kept (Sh : Nat → Heap → Prop) (wr : List Addr) (Mu : Addr → Prop) (s₀ : Shared) (i : Nat) (h : Heap) : Prop := Sh i h ∧ ∀ b o, b < s₀.heap.objs.size → ¬ Mu b → b ∉ wr → b ≠ TA → s₀.heap.get? b = some o → h.get? b = some o
theorem IsIter.of_walks {tgt : Expr} {I : Addr} {fp wr : List Addr} {n : Nat} {Pi : Nat → Value → Prop} {Sh : Nat → Heap → Prop} {xs : List AV} {O Mu : Addr → Prop} {s₀ : Shared}
    (Wk : Walks l.prog l.w A I fp wr n Pi Sh) (hn : xs.length = n) (h0 : Sh 0 s₀.heap)
    (hfp : ∀ b ∈ fp, b < s₀.heap.objs.size ∧ ¬ Mu b ∧ b ≠ TA)
    (hgo : ∀ i v (s : Shared) (Q : Unit → Shared → Prop), Sh (i + 1) s.heap → Q () s → wpAny l.M A (letOwnedTupleGo tgt (.ref I) v) Q NoE s)
    (hMu : ∀ b, Mu b → O b) (hnc : ∀ i h, Sh i h → ∀ b ∈ wr, NC h b)
    (hrd : ∀ i x v (h : Heap) tk, xs[i]? = some x → Pi i v → (∀ b o, b < s₀.heap.objs.size → ¬ Mu b → b ∉ wr → b ≠ TA → s₀.heap.get? b = some o → h.get? b = some o) →
      Rd h (fun b => O b ∨ b ∈ wr ∨ (s₀.heap.objs.size ≤ b ∧ b < tk)) x v) :
    IsIter l A tgt (.ref I) xs (fun b => b ∈ wr) (fun _ => False) O Mu s₀
      (fun i s => Kept Sh wr Mu s₀ i s.heap) where
  start := ⟨h0, fun _ _ _ _ _ _ e => e⟩
  stay := fun i s s' h f => ⟨Wk.frame i _ _ h.1 fun b hb o e => f.heap b o (hfp b hb).1 (hfp b hb).2.1 (hfp b hb).2.2 e, fun b o h1 h2 h3 h4 e => f.heap b o h1 h2 h4 (h.2 b o h1 h2 h3 h4 e)⟩
  item := fun i x s hx h _ _ => by
    have hi : i < n := hn ▸ (List.getElem?_eq_some_iff.mp hx).1
    have hTA : TA ∉ wr := fun hm => (hfp _ (Wk.sub _ hm)).2.2 rfl
    refine with_tk (with_size (Wk.item i s _ _ hi h.1 fun v h' tk hP hS hk hz htk => ?_))
    refine ⟨v, rfl, hgo i v _ _ hS ?_⟩
    have hk2 : ∀ b o, b < s₀.heap.objs.size → ¬ Mu b → b ∉ wr → b ≠ TA → s₀.heap.get? b = some o → h'.get? b = some o := fun b o h1 h2 h3 h4 e => hk b o h3 (h.2 b o h1 h2 h3 h4 e)
    exact ⟨hrd i x v h' _ hx hP hk2, ⟨hS, hk2⟩, Kp.of_wr hk hz hTA (hnc i _ h.1) htk⟩
  done := fun s h _ => by
    have hTA : TA ∉ wr := fun hm => (hfp _ (Wk.sub _ hm)).2.2 rfl
    exact with_tk (with_size (Wk.done s _ _ (hn ▸ h.1) fun h' tk hk hz htk => ⟨rfl, Kp.of_wr hk hz hTA (hnc n _ (hn ▸ h.1)) htk⟩))
  self := fun i s h => Wk.self i s _ _ h.1 ⟨rfl, rfl⟩
  low := fun b hb => (hfp b (Wk.sub b hb)).1
/-- an iterator made -/
noncomputable def Iters (l : L) (A : Around) (tgt : Expr) (xs : List AV) (O Mu : Addr → Prop) (s : Shared) (it : Value) (s' : Shared) : Prop :=
  K0 s s' ∧ ∃ W Gs St, (∀ b, W b → s.heap.objs.size ≤ b) ∧ (∀ g, Gs g → s.gens.size ≤ g) ∧ IsIter l A tgt it xs W Gs O Mu s' St
theorem Iters.mk {l : L} {A : Around} {tgt : Expr} {xs : List AV} {O Mu : Addr → Prop} {s : Shared} {it : Value} {s' : Shared} {W : Addr → Prop} {Gs : Nat → Prop} {St : Nat → Shared → Prop}
    (k : K0 s s') (h : IsIter l A tgt it xs W Gs O Mu s' St) (hW : ∀ b, W b → s.heap.objs.size ≤ b) (hG : ∀ g, Gs g → s.gens.size ≤ g) : Iters l A tgt xs O Mu s it s' := ⟨k, W, Gs, St, hW, hG, h⟩
inductive Tgt : Expr → Prop
  | name (x p) : Tgt (.Name x p)
  | tup (es k p) : Tgt (.Tuple es k p)
theorem go_listiter {tgt : Expr} (ht : Tgt tgt) {it q : Addr} {i : Nat} {v : Value} {s : Shared} {Q : Unit → Shared → Prop} (h : s.heap.IsListIter it q i) (hQ : Q () s) :
    wpAny l.M A (letOwnedTupleGo tgt (.ref it) v) Q NoE s := by
  cases ht with
  | name => exact wpAny_pure hQ
  | tup =>
    cases v <;> first | exact wpAny_pure hQ | exact wpAny_letOwnedTupleGo_listiter h hQ
/-- an iterator made, whose state is the heap's alone -/
noncomputable def HIts (l : L) (tgt : Expr) (xs : List AV) (O Mu : Addr → Prop) (s : Shared) (it : Value) (s' : Shared) : Prop := K0 s s' ∧ ∃ (W : Addr → Prop) (Sh : Nat → Heap → Prop), (∀ b, W b → s.heap.objs.size ≤ b) ∧ ∀ A : Around, A.handled = none → IsIter l A tgt it xs W (fun _ => False) O Mu s' (fun i t => Sh i t.heap)
theorem HIts.to {tgt xs O Mu s it s'} (hh : A.handled = none) (h : HIts l tgt xs O Mu s it s') : Iters l A tgt xs O Mu s it s' := let ⟨k, W, Sh, h1, h2⟩ := h; Iters.mk k (h2 A hh) h1 fun _ h => h.elim
theorem seq_its {tgt : Expr} {T : String} {o : Obj} {a : Addr} {vs : Array Value} {n : Nat} {xs : List AV} {O Mu : Addr → Prop} {s : Shared} {Sh : Nat → Heap → Prop} (q : SeqAt T s.heap O xs a vs n) (hMu : ∀ b, Mu b → O b) (hO : ∀ b, O b → b < s.heap.objs.size) (ht : Tab s.heap)
    (W : ∀ A : Around, A.handled = none → Walks l.prog l.w A s.heap.objs.size [s.heap.objs.size, a] [s.heap.objs.size] vs.size (fun i v => vs[i]? = some v) Sh) (h0 : Sh 0 (s.heap.push o))
    (hgo : ∀ (A : Around) i v (t : Shared) (Q : Unit → Shared → Prop), Sh (i + 1) t.heap → Q () t → wpAny l.M A (letOwnedTupleGo tgt (.ref s.heap.objs.size) v) Q NoE t) (hnc : ∀ i h, Sh i h → NC h s.heap.objs.size) :
    HIts l tgt xs O Mu s (.ref s.heap.objs.size) { s with heap := s.heap.push o } := by
  have hsz : (s.heap.push o).objs.size = s.heap.objs.size + 1 := Heap.size_push ..
  have hlt := Heap.lt_size q.2.2.1
  refine ⟨.push1, fun b => b ∈ [s.heap.objs.size], Kept Sh [s.heap.objs.size] Mu { s with heap := s.heap.push o }, fun b hb => Nat.le_of_eq (List.mem_singleton.mp hb).symm, fun A hh => IsIter.of_walks (W A hh) q.len.symm h0 (fun b hb => ?_) (hgo A) hMu (fun i h q b hb => List.mem_singleton.mp hb ▸ hnc i h q) fun i x u h tk hx hu hk => ?_⟩
  · rw [hsz]
    rcases List.mem_cons.mp hb with rfl | e
    · exact ⟨Nat.lt_succ_self _, fun q => Nat.lt_irrefl _ (hO _ (hMu _ q)), Nat.ne_of_gt (TA_lt ht)⟩
    · cases List.mem_singleton.mp e
      exact ⟨Nat.lt_succ_of_lt hlt, fun z => q.1 (hMu _ z), q.2.1⟩
  · obtain ⟨u', hu', hr⟩ := q.item hx
    cases hu.symm.trans hu'
    refine hr.move fun b o hb1 hb2 hb3 => ?_
    have hbl : (b : Nat) < s.heap.objs.size := Heap.lt_size hb3
    have hne : b ∉ [s.heap.objs.size] := fun q => Nat.ne_of_lt hbl (List.mem_singleton.mp q)
    exact ⟨hk b o (by rw [hsz]; exact Nat.lt_succ_of_lt hbl) (fun q => hb2 (hMu b q)) hne hb1 (Heap.get?_push_of_some _ hb3), fun z => z.elim hb2 fun z => z.elim hne fun z => Nat.lt_irrefl _ (Nat.lt_of_lt_of_le (Nat.lt_succ_of_lt hbl) (Nat.le_trans (Nat.le_of_eq hsz.symm) z.1))⟩
theorem its_list {tgt : Expr} (htg : Tgt tgt) {xs : List AV} {O Mu : Addr → Prop} {s : Shared} {v : Value} (r : Rd s.heap O (.list xs) v) (hMu : ∀ b, Mu b → O b) (hO : ∀ b, O b → b < s.heap.objs.size) (ht : Tab s.heap) :
    wpAny l.M A (pyIter v) (HIts l tgt xs O Mu s) NoE s := r.listE fun a vs n q =>
  wpAny_pyIter_list q.isL (seq_its q hMu hO ht (fun A hh => Walks.list hh s.heap.objs.size a (Nat.ne_of_lt (Heap.lt_size q.2.2.1)) vs) ⟨⟨_, Heap.get?_push_size _ rfl, rfl, rfl⟩, q.isL.push _⟩ (fun A i u t Q hS hQ => go_listiter htg hS.1 hQ)
    fun i h q => let ⟨⟨o, e, _, hd⟩, _⟩ := q; .of e fun fs t z => by cases hd.symm.trans z; exact fun e => nomatch e)
theorem iter_list {tgt : Expr} (htg : Tgt tgt) (hh : A.handled = none) {xs : List AV} {O Mu : Addr → Prop} {s : Shared} {v : Value} (r : Rd s.heap O (.list xs) v)
    (hMu : ∀ b, Mu b → O b) (hO : ∀ b, O b → b < s.heap.objs.size) (ht : Tab s.heap) : wpAny l.M A (pyIter v) (Iters l A tgt xs O Mu s) NoE s := wpAny_mono (its_list htg r hMu hO ht) (fun _ _ => HIts.to hh) fun _ _ q => q
theorem go_name {x p} {it v : Value} {s : Shared} {Q : Unit → Shared → Prop} (hQ : Q () s) : wpAny l.M A (letOwnedTupleGo (.Name x p) it v) Q NoE s := wpAny_pure hQ
theorem iter_tup {x : Str} {p : Pos} (hh : A.handled = none) {xs : List AV} {O Mu : Addr → Prop} {s : Shared} {v : Value} (r : Rd s.heap O (.tup xs) v)
    (hMu : ∀ b, Mu b → O b) (hO : ∀ b, O b → b < s.heap.objs.size) (ht : Tab s.heap) :
    wpAny l.M A (pyIter v) (Iters l A (.Name x p) xs O Mu s) NoE s := r.tupE fun a vs n q =>
  wpAny_pyIter_tuple q.isT (HIts.to hh (seq_its q hMu hO ht (fun A hh => Walks.tuple hh s.heap.objs.size a (Nat.ne_of_lt (Heap.lt_size q.2.2.1)) vs) ⟨⟨_, Heap.get?_push_size _ rfl, rfl, rfl⟩, q.isT.push _⟩ (fun A i u t Q hS hQ => go_name hQ)
    fun i h q => let ⟨⟨o, e, _, hd⟩, _⟩ := q; .of e fun fs t z => by cases hd.symm.trans z; exact fun e => nomatch e))
end
section
variable {l : L} {A : Around}
noncomputable def intsFrom (a : Int) (n : Nat) : List AV := (List.range n).map fun i => .int (a + (i : Nat))
noncomputable def rangeA (a b : Int) : Option (List AV) := if -(2 ^ 62) ≤ a ∧ a < 2 ^ 62 ∧ -(2 ^ 62) ≤ b ∧ b < 2 ^ 62 then some (intsFrom a (b - a).toNat) else none
theorem iter_range {x : Str} {p : Pos} (hh : A.handled = none) {a b : Int} {t u v : Tok} {r : Addr} {O Mu : Addr → Prop} {s s₁ : Shared} (k : K0 s s₁) (hr : IsRange s₁.heap r a b 1 t u v)
    (ha : -(2 ^ 62) ≤ a ∧ a < 2 ^ 62 ∧ -(2 ^ 62) ≤ b ∧ b < 2 ^ 62)
    (hMu : ∀ b, Mu b → O b) (hO : ∀ b, O b → b < s.heap.objs.size) (ht : Tab s.heap) :
    wpAny l.M A (pyIter (.ref r)) (Iters l A (.Name x p) (intsFrom a (b - a).toNat) O Mu s) NoE s₁ := by
  refine wpAny_pyIter_range hr (small_one ha.1 ha.2.1 ha.2.2.1 ha.2.2.2) ?_
  have hn : Builtin.Range.rangeSize a b 1 = ((b - a).toNat : Int) := by
    rw [rangeSize_one]
    split <;> omega
  have hsz : (s₁.heap.push { cls := .type "range_iterator", data := .fields #[rawInt a, rawInt (Builtin.Range.rangeSize a b 1), rawInt 1] }).objs.size = s₁.heap.objs.size + 1 := Heap.size_push ..
  refine Iters.mk (k.trans K0.push1) (IsIter.of_walks (Walks.range hh s₁.heap.objs.size a 1 (b - a).toNat) (by simp [intsFrom]) ?_ (fun b hb => ?_) (fun i u s' Q hS hQ => go_name hQ) hMu (fun i h q b hb => by
      rw [List.mem_singleton.mp hb]
      exact .of q fun fs t z => by cases z; simp [rawInt]) (fun i x u h tk hx hu hk => ?_)) (fun b hb => ?_) (fun _ h => h.elim)
  · have : IsRangeIter (s₁.heap.push { cls := .type "range_iterator", data := .fields #[rawInt a, rawInt (Builtin.Range.rangeSize a b 1), rawInt 1] }) s₁.heap.objs.size a (Builtin.Range.rangeSize a b 1) 1 := Heap.get?_push_size _ rfl
    rw [hn] at this
    rw [show a + ((0 : Nat) : Int) * 1 = a by omega, show (((b - a).toNat : Nat) : Int) - ((0 : Nat) : Int) = ((b - a).toNat : Int) by omega, hn]
    exact this
  · rw [hsz]
    have e := List.mem_singleton.mp hb
    subst e
    exact ⟨Nat.lt_succ_self _, fun q => Nat.lt_irrefl _ (Nat.lt_of_lt_of_le (hO _ (hMu _ q)) k.size), Nat.ne_of_gt (Nat.lt_of_lt_of_le (TA_lt ht) k.size)⟩
  · obtain ⟨tk', rfl⟩ := hu
    have : x = .int (a + (i : Nat)) := by
      unfold intsFrom at hx
      rw [List.getElem?_map] at hx
      obtain ⟨j, hj, rfl⟩ := Option.map_eq_some_iff.mp hx
      obtain ⟨_, e⟩ := List.getElem?_eq_some_iff.mp hj
      rw [List.getElem_range] at e
      rw [e]
    subst this
    rw [Int.mul_one]
    exact rd_int.mpr ⟨_, rfl⟩
  · rw [List.mem_singleton.mp hb]; exact k.size
theorem range1_ok {x : Str} {p : Pos} (hh : A.handled = none) {n : Int} {t : Tok} {xs : List AV} {O Mu : Addr → Prop} {s : Shared} (he : rangeA 0 n = some xs)
    (hMu : ∀ b, Mu b → O b) (hO : ∀ b, O b → b < s.heap.objs.size) (ht : Tab s.heap) :
    wpAny l.M A (call (.type "range") [.int n t]) (fun r s₁ => wpAny l.M A (pyIter r) (Iters l A (.Name x p) xs O Mu s) NoE s₁) NoE s := by
  unfold rangeA at he
  split at he
  · cases he
    exact call_range_1 (iter_range hh (.push fun _ => Nat.succ_pos _) (IsRange.new ..) (by assumption) hMu hO ht)
  · cases he
theorem range2_ok {x : Str} {p : Pos} (hh : A.handled = none) {a b : Int} {t u : Tok} {xs : List AV} {O Mu : Addr → Prop} {s : Shared} (he : rangeA a b = some xs)
    (hMu : ∀ b, Mu b → O b) (hO : ∀ b, O b → b < s.heap.objs.size) (ht : Tab s.heap) :
    wpAny l.M A (call (.type "range") [.int a t, .int b u]) (fun r s₁ => wpAny l.M A (pyIter r) (Iters l A (.Name x p) xs O Mu s) NoE s₁) NoE s := by
  unfold rangeA at he
  split at he
  · cases he
    exact call_range_2 (iter_range hh (.push fun _ => Nat.succ_pos _) (IsRange.new ..) (by assumption) hMu hO ht)
  · cases he
noncomputable def zipA : List AV → List AV → List AV
  | x :: xs, y :: ys => .tup [x, y] :: zipA xs ys
  | _, _ => []
theorem zipA_get : ∀ {xs ys : List AV} {i : Nat} {t : AV}, (zipA xs ys)[i]? = some t → ∃ x y, xs[i]? = some x ∧ ys[i]? = some y ∧ t = .tup [x, y]
  | [], _, i, t, h => by simp [zipA] at h
  | _ :: _, [], i, t, h => by simp [zipA] at h
  | x :: xs, y :: ys, i, t, h => by
    rw [zipA] at h
    cases i with
    | zero => simp at h; exact ⟨x, y, by simp, by simp, h.symm⟩
    | succ i => simp at h; obtain ⟨a, b, h1, h2, h3⟩ := zipA_get h; exact ⟨a, b, by simpa using h1, by simpa using h2, h3⟩
theorem zipA_len : ∀ {xs ys : List AV}, (zipA xs ys).length = min xs.length ys.length
  | [], _ => by simp [zipA]
  | _ :: _, [] => by simp [zipA]
  | x :: xs, y :: ys => by rw [zipA, List.length_cons, zipA_len, List.length_cons, List.length_cons]; omega
theorem NC.listIter {h : Heap} {a l : Addr} {i : Nat} (q : h.IsListIter a l i) : NC h a := by
  obtain ⟨o, e, _, hd⟩ := q
  exact .of e fun fs t z => by rw [hd] at z; cases z; simp
theorem znc {h : Heap} {z TI TO i1 i2 l1 l2 : Addr} {i j : Nat} {a b f0 : Value} (h1 : IsZip h z TI TO f0) (h2 : IsPair h TO a b) (h3 : h.IsListIter i1 l1 i) (h4 : h.IsListIter i2 l2 j) : ∀ b ∈ [z, TO, i1, i2], NC h b := by
  intro b hb
  simp only [List.mem_cons, List.not_mem_nil, or_false] at hb
  rcases hb with rfl | rfl | rfl | rfl
  · exact .of h1 fun fs t z => by cases z; simp
  · exact .seq h2 rfl
  · exact .listIter h3
  · exact .listIter h4
theorem zip_ok {es : List Expr} {k9 : Nat} {p : Pos} (hh : A.handled = none) {xs ys : List AV} {v1 v2 : Value} {O Mu : Addr → Prop} {s : Shared} (r1 : Rd s.heap O (.list xs) v1) (r2 : Rd s.heap O (.list ys) v2)
    (hMu : ∀ b, Mu b → O b) (hO : ∀ b, O b → b < s.heap.objs.size) (ht : Tab s.heap) :
    wpAny l.M A (call (.type "zip") [v1, v2]) (fun r s₁ => wpAny l.M A (pyIter r) (Iters l A (.Tuple es k9 p) (zipA xs ys) O Mu s) NoE s₁) NoE s := by
  obtain ⟨l1, vs1, n1, rfl, a1, a2, a3, a4, a5⟩ := rd_list.mp r1
  obtain ⟨l2, vs2, n2, rfl, b1, b2, b3, b4, b5⟩ := rd_list.mp r2
  have lt1 : @LT.lt Nat _ l1 s.heap.objs.size := Heap.lt_size a3
  have lt2 : @LT.lt Nat _ l2 s.heap.objs.size := Heap.lt_size b3
  have hl1 : s.heap.IsList l1 vs1 := ⟨_, a3, rfl, n1, rfl⟩
  have hl2 : s.heap.IsList l2 vs2 := ⟨_, b3, rfl, n2, rfl⟩
  have hT := TA_lt ht
  refine call_zip_2 hl1 hl2 fun h' z1 z2 z3 z4 z5 hsz hk => wpAny_pyIter_zip z1 ?_
  have k : K0 s { s with heap := h' } := K0.heap1 hk (by rw [hsz]; omega)
  generalize hN : s.heap.objs.size = N at *
  have D : ZipApart (N + 4) (N + 2) (N + 3) N (N + 1) l1 l2 := by
    constructor <;> (intro q; have q' : @Eq Nat _ _ := q; omega)
  have W := WalksT.zip2 (prog := l.prog) (w := l.w) hh (N + 4) (N + 2) (N + 3) N (N + 1) l1 l2 D vs1 vs2
  have hfp : ∀ b ∈ [N + 4, N + 2, N + 3, N, N + 1, l1, l2], b < N + 5 ∧ ¬ Mu b ∧ b ≠ TA := by
    intro b hb
    have hbig : ∀ c, N ≤ c → ¬ Mu c ∧ c ≠ TA := fun c hc => ⟨fun q => Nat.lt_irrefl _ (Nat.lt_of_lt_of_le (hO _ (hMu _ q)) hc), Nat.ne_of_gt (Nat.lt_of_lt_of_le hT hc)⟩
    simp only [List.mem_cons, List.not_mem_nil, or_false] at hb
    rcases hb with rfl | rfl | rfl | rfl | rfl | rfl | rfl
    · exact ⟨Nat.add_lt_add_left (by decide) _, hbig _ (Nat.le_add_right _ _)⟩
    · exact ⟨Nat.add_lt_add_left (by decide) _, hbig _ (Nat.le_add_right _ _)⟩
    · exact ⟨Nat.add_lt_add_left (by decide) _, hbig _ (Nat.le_add_right _ _)⟩
    · exact ⟨Nat.lt_add_of_pos_right (by decide), hbig _ (Nat.le_refl _)⟩
    · exact ⟨Nat.add_lt_add_left (by decide) _, hbig _ (Nat.le_add_right _ _)⟩
    · exact ⟨Nat.lt_of_lt_of_le lt1 (Nat.le_add_right _ _), fun q => a1 (hMu _ q), a2⟩
    · exact ⟨Nat.lt_of_lt_of_le lt2 (Nat.le_add_right _ _), fun q => b1 (hMu _ q), b2⟩
  have hTw : TA ∉ [N + 4, N + 3, N, N + 1] := fun q => (hfp TA (W.sub _ q)).2.2 rfl
  have hlen : (zipA xs ys).length = min vs1.size vs2.size := by
    have e1 := a5.length
    have e2 := b5.length
    rw [Array.length_toList] at e1 e2
    rw [zipA_len, e1, e2]
  refine Iters.mk (St := fun i s' => (IsZip s'.heap (N + 4) (N + 2) (N + 3) .none ∧ IsPair s'.heap (N + 2) (.ref N) (.ref (N + 1)) ∧ (∃ a b, IsPair s'.heap (N + 3) a b) ∧ s'.heap.IsListIter N l1 i ∧ s'.heap.IsListIter (N + 1) l2 i ∧ s'.heap.IsList l1 vs1 ∧ s'.heap.IsList l2 vs2) ∧
      (∀ b o, b < N + 5 → ¬ Mu b → b ∉ [N + 4, N + 3, N, N + 1] → b ≠ TA → h'.get? b = some o → s'.heap.get? b = some o)) (W := fun b => b ∈ [N + 4, N + 3, N, N + 1]) (Gs := fun _ => False) k ?_ (fun b hb => ?_) (fun _ h => h.elim)
  · refine ⟨⟨⟨z1, z2, ⟨_, _, z3⟩, z4, z5, hl1.at fun o e => hk _ o e, hl2.at fun o e => hk _ o e⟩, fun _ _ _ _ _ _ e => e⟩, fun i s1 s2 h f => ?_, fun i x s1 hx h _ _ => ?_, fun s1 h _ => ?_, fun i s1 h => ?_, fun b hb => ?_⟩
    · have f' := f.heap
      rw [show ({ s with heap := h' } : Shared).heap.objs.size = N + 5 from hsz] at f'
      exact ⟨W.frame i _ _ h.1 fun b hb o e => f' b o (hfp b hb).1 (hfp b hb).2.1 (hfp b hb).2.2 e, fun b o c1 c2 c3 c4 e => f' b o c1 c2 c4 (h.2 b o c1 c2 c3 c4 e)⟩
    · obtain ⟨x1, x2, hx1, hx2, rfl⟩ := zipA_get hx
      have hi : i < min vs1.size vs2.size := hlen ▸ (List.getElem?_eq_some_iff.mp hx).1
      obtain ⟨⟨hz, hTI, ⟨pa, pb, hTO⟩, hi1, hi2, hL1, hL2⟩, hold⟩ := h
      have hx' : i < vs1.size := Nat.lt_of_lt_of_le hi (Nat.min_le_left ..)
      have hy' : i < vs2.size := Nat.lt_of_lt_of_le hi (Nat.min_le_right ..)
      obtain ⟨u1, hu1, q1⟩ := a5.get hx1
      obtain ⟨u2, hu2, q2⟩ := b5.get hx2
      rw [Array.getElem?_toList] at hu1 hu2
      refine wpAny_pyNext_zip_item D hz hTI hTO hi1 hi2 hL1 hL2 hu1 hu2 fun h2 c1 c2 c3 c4 c5 c6 c7 => ⟨_, rfl, wpAny_letOwnedTupleGo_zip c1 fun h3 c8 c9 => ?_⟩
      have hlt : ∀ {c o}, s1.heap.get? c = some o → c ≠ s1.heap.objs.size := fun e => Nat.ne_of_lt (Heap.lt_size e)
      have hz3 : h3.objs.size = s1.heap.objs.size + 1 := c9.1.trans c6
      have hk2 : ∀ b o, b ∉ [N + 4, N + 3, N, N + 1] → s1.heap.get? b = some o → h3.get? b = some o := fun b o hb e => by
        simp only [List.mem_cons, List.not_mem_nil, or_false, not_or] at hb
        exact (c9.2 b hb.1).trans (c7 b o hb.1 hb.2.1 hb.2.2.1 hb.2.2.2 e)
      have hkeep : ∀ b o, b < N + 5 → ¬ Mu b → b ∉ [N + 4, N + 3, N, N + 1] → b ≠ TA → h'.get? b = some o → h3.get? b = some o := fun b o e1 e2 e3 e4 e5 => hk2 b o e3 (hold b o e1 e2 e3 e4 e5)
      have hTz : s1.heap.objs.size ≠ N + 4 := fun q => hlt hz q.symm
      have hTp : h3.get? s1.heap.objs.size = some { cls := .type "tuple", data := .seq #[u1, u2] } := (c9.2 _ hTz).trans c5
      have mv : ∀ {y u}, Rd s.heap O y u → Rd h3 (fun b => O b ∨ b ∈ [N + 4, N + 3, N, N + 1] ∨ (({ s with heap := h' } : Shared).heap.objs.size ≤ b ∧ b < s1.heap.objs.size)) y u := fun r => r.move fun b o e1 e2 e3 => by
        have hbl : @LT.lt Nat _ b N := hN ▸ Heap.lt_size e3
        have hne : b ∉ [N + 4, N + 3, N, N + 1] := by
          simp only [List.mem_cons, List.not_mem_nil, or_false, not_or]
          refine ⟨?_, ?_, ?_, ?_⟩ <;> (intro q; have q' : @Eq Nat _ _ := q; omega)
        refine ⟨hkeep b o (Nat.lt_of_lt_of_le hbl (Nat.le_add_right _ _)) (fun q => e2 (hMu b q)) hne e1 (hk _ _ e3), ?_⟩
        rintro (q | q | ⟨q, _⟩)
        · exact e2 q
        · exact hne q
        · rw [hsz] at q; exact Nat.lt_irrefl _ (Nat.lt_of_lt_of_le hbl (Nat.le_trans (Nat.le_add_right _ _) q))
      refine ⟨rd_tup.mpr ⟨_, #[u1, u2], 0, rfl, ?_, ?_, hTp, ?_, ?_⟩, ⟨⟨c8, ?_, ⟨u1, u2, ?_⟩, ?_, ?_, ?_, ?_⟩, hkeep⟩, Kp.of_wr hk2 (by rw [hz3]; exact Nat.le_succ _) hTw (znc hz hTO hi1 hi2) fun h => h⟩
      · have hbig : ({ s with heap := h' } : Shared).heap.objs.size ≤ s1.heap.objs.size := by assumption
        rw [hsz] at hbig
        rintro (q | q | ⟨_, q⟩)
        · have := hO _ q
          have h9 : @LT.lt Nat _ s1.heap.objs.size N := this
          omega
        · simp only [List.mem_cons, List.not_mem_nil, or_false] at q
          rcases q with q | q | q | q
          · exact hlt hz q.symm
          · exact hlt hTO q.symm
          · obtain ⟨_, e, _⟩ := hi1; exact hlt e q.symm
          · obtain ⟨_, e, _⟩ := hi2; exact hlt e q.symm
        · exact Nat.lt_irrefl _ q
      · have hbig : ({ s with heap := h' } : Shared).heap.objs.size ≤ s1.heap.objs.size := by assumption
        rw [hsz] at hbig
        exact Nat.ne_of_gt (Nat.lt_of_lt_of_le hT (Nat.le_trans (Nat.le_add_right _ _) hbig))
      · show (2 : Nat) ≤ sizeLine
        rw [sizeLine_eq]; decide
      · exact .cons (mv q1) (.cons (mv q2) .nil)
      · exact (c9.2 _ D.TIz).trans (c7 _ _ D.TIz D.TITO D.TIi1 D.TIi2 hTI)
      · exact (c9.2 _ D.TOz).trans c2
      · exact c3.extBut c9.extBut D.i1z
      · exact c4.extBut c9.extBut D.i2z
      · exact (hL1.at fun o e => c7 _ o D.l1z D.l1TO D.l1i1 D.l1i2 e).extBut c9.extBut D.l1z
      · exact (hL2.at fun o e => c7 _ o D.l2z D.l2TO D.l2i1 D.l2i2 e).extBut c9.extBut D.l2z
    · exact with_tk (with_size (W.done s1 _ _ (hlen ▸ h.1) fun h' tk hk hz htk => ⟨rfl, Kp.of_wr hk hz hTw (let ⟨q1, _, ⟨_, _, q3⟩, q4, q5, _⟩ := h.1; znc q1 q3 q4 q5) htk⟩))
    · exact W.self i s1 _ _ h.1 ⟨rfl, rfl⟩
    · exact Nat.lt_of_lt_of_le (hfp b (W.sub _ hb)).1 (Nat.le_of_eq hsz.symm)
  · simp only [List.mem_cons, List.not_mem_nil, or_false] at hb
    show s.heap.objs.size ≤ b
    rw [hN]
    rcases hb with rfl | rfl | rfl | rfl
    · exact Nat.le_add_right _ _
    · exact Nat.le_add_right _ _
    · exact Nat.le_refl _
    · exact Nat.le_add_right _ _
end
structure Cx where
  sc : Scope
  own : List Str
structure Fm where
  A : Around
  env : Env
  O : Addr → Prop
  Mu : Addr → Prop
@[reducible] noncomputable def Fm.up (f : Fm) (O Mu : Addr → Prop) : Fm := ⟨f.A, f.env, O, Mu⟩
noncomputable def odd (x : Str) : Bool := x == ("__debug__" : Str) || x == ("__classdict__" : Str)
noncomputable def isStar (e : Expr) : Bool := Nat.beq e.ctorIdx (Expr.Starred e ⟨0, 0, 0, 0⟩).ctorIdx
noncomputable def isSlice (e : Expr) : Bool := Nat.beq e.ctorIdx (Expr.Slice none none none ⟨0, 0, 0, 0⟩).ctorIdx
noncomputable def isSet (e : Expr) : Bool := Nat.beq e.ctorIdx (Expr.Set [] 0 ⟨0, 0, 0, 0⟩).ctorIdx
noncomputable def isCall (e : Expr) : Bool := Nat.beq e.ctorIdx (Expr.Call e [] [] ⟨0, 0, 0, 0⟩).ctorIdx
noncomputable def kOf (cx : Cx) (x : Str) : Option NameKind := cx.sc.names.lookup x
noncomputable def kLoc (cx : Cx) (x : Str) : Bool := !odd x && (kOf cx x == some .local || kOf cx x == some .cell || kOf cx x == some .free)
noncomputable def kGlob (cx : Cx) (x : Str) : Bool := !odd x && kOf cx x == some .globalImplicit
theorem odd_dbg {x : Str} {b : Bool} (h : (!odd x && b) = true) : (x == ("__debug__" : Str)) = false := (Bool.or_eq_false_iff.mp ((Bool.not_eq_true' _).mp (Bool.and_eq_true_iff.mp h).1)).1
theorem odd_cd {x : Str} {b : Bool} (h : (!odd x && b) = true) : (x == ("__classdict__" : Str)) = false := (Bool.or_eq_false_iff.mp ((Bool.not_eq_true' _).mp (Bool.and_eq_true_iff.mp h).1)).2
theorem kGlob_kind {cx : Cx} {x : Str} (h : kGlob cx x = true) : kOf cx x = some .globalImplicit := eq_of_beq (Bool.and_eq_true_iff.mp h).2
/-- what a call needs of the state -/
structure Go (l : L) (A : Around) (O : Addr → Prop) (s : Shared) : Prop where
  hh : A.handled = none
  dep : A.depth + l.d < recursionLimit
  uni : A.units + (100 + 20 * l.d) < cLine
  tk : 0 < s.toks
  base : Base l.h s.heap
  bd : ∀ b, O b → b < s.heap.objs.size
theorem Go.k {l A O s s'} (g : Go l A O s) (k : K0 s s') : Go l A O s' := ⟨g.hh, g.dep, g.uni, k.tk g.tk, g.base.k0 k, fun b h => Nat.lt_of_lt_of_le (g.bd b h) k.size⟩
theorem Go.u100 {l A O s} (g : Go l A O s) : A.units + 100 < cLine := Nat.lt_of_le_of_lt (Nat.add_le_add_left (Nat.le_add_right 100 _) _) g.uni
theorem Go.u80 {l A O s} (g : Go l A O s) : A.units + 80 < cLine := Nat.lt_of_le_of_lt (Nat.add_le_add_left (by decide) _) g.u100
theorem Go.dp {l A O s} (g : Go l A O s) : A.depth < recursionLimit := Nat.lt_of_le_of_lt (Nat.le_add_right _ _) g.dep
structure Act (l : L) (cx : Cx) (f : Fm) (ρ : Ro) (s : Shared) : Prop where
  sc : f.env.scope = cx.sc
  hh : f.A.handled = none
  dep : f.A.depth + l.d < recursionLimit
  uni : f.A.units + (100 + 20 * l.d) < cLine
  tk : 0 < s.toks
  base : Base l.h s.heap
  en : EnvOk l.h cx.own f.env f.O f.Mu s.heap
  fr : FrOk f.env f.O f.Mu ρ s.heap
section
variable {l : L} {cx : Cx} {f : Fm} {ρ : Ro} {s s' s₀ : Shared}
theorem Act.k0 (a : Act l cx f ρ s) (k : K0 s s') : Act l cx f ρ s' := ⟨a.sc, a.hh, a.dep, a.uni, k.tk a.tk, a.base.k0 k, a.en.k0 k, a.fr.k0 a.en k⟩
theorem Act.go (a : Act l cx f ρ s) : Go l f.A f.O s := ⟨a.hh, a.dep, a.uni, a.tk, a.base, a.en.bound⟩
theorem Act.gk (a : Act l cx f ρ s) (k : K0 s s') : Go l f.A f.O s' := a.go.k k
theorem kind_of (a : Act l cx f ρ s) (x : Str) : f.env.kindOf x = kOf cx x := by
  unfold Env.kindOf kOf; rw [a.sc]
theorem ns_keep {h₁ h : Heap} (B : Base h₁ h) {a : Addr} {m} (ha : a ≠ TA) (hn : h₁.Ns a m) : h.Ns a m := Heap.Ns.get hn fun o e => B.keep a o ha e
/-- what an expression comes to -/
structure EV (l : L) (cx : Cx) (ρ : Ro) (e : Expr) (r : AV) : Prop where
  ok : ∀ f s, Act l cx f ρ s → wpAny l.M f.A (eval e f.env) (Ends f.O s r) NoE s
structure TV (l : L) (cx : Cx) (ρ : Ro) (e : Expr) (b : Bool) : Prop where
  ok : ∀ f s, Act l cx f ρ s → wpAny l.M f.A (isTrue e f.env (eval e f.env)) (fun b' s' => b' = b ∧ K0 s s') NoE s
theorem wp_ends {O r A} {m : Sem Value} (k : K0 s₀ s) (h : wpAny l.M A m (Ends O s r) NoE s) : wpAny l.M A m (Ends O s₀ r) NoE s := wpAny_mono h (fun _ _ => Ends.trans k) fun _ _ q => q
theorem EV.go {e r} {Q : Value → Shared → Prop} (h : EV l cx ρ e r) (a : Act l cx f ρ s₀) (k : K0 s₀ s) (n : ∀ v s', K0 s₀ s' → K0 s s' → Rd s'.heap f.O r v → Q v s') : wpAny l.M f.A (eval e f.env) Q NoE s :=
  wpAny_mono (h.ok f s (a.k0 k)) (fun v s' q => n v s' (k.trans q.1) q.1 q.2) fun _ _ q => q
/-- two expressions, one after the other -/
theorem EV.two {x y a b} {Q : Value → Value → Shared → Prop} (h1 : EV l cx ρ x a) (h2 : EV l cx ρ y b) (ac : Act l cx f ρ s₀) (k : K0 s₀ s) (n : ∀ v u s', K0 s₀ s' → Rd s'.heap f.O a v → Rd s'.heap f.O b u → Q v u s') :
    wpAny l.M f.A (eval x f.env) (fun v s₁ => wpAny l.M f.A (eval y f.env) (fun u s₂ => Q v u s₂) NoE s₁) NoE s :=
  h1.go ac k fun v _ k1 _ r1 => h2.go ac k1 fun u s' k2 k' r2 => n v u s' k2 (r1.k0 k') r2
theorem TV.go {e b} {Q : Bool → Shared → Prop} (h : TV l cx ρ e b) (a : Act l cx f ρ s₀) (k : K0 s₀ s) (n : ∀ s', K0 s₀ s' → K0 s s' → Q b s') : wpAny l.M f.A (isTrue e f.env (eval e f.env)) Q NoE s :=
  wpAny_mono (h.ok f s (a.k0 k)) (fun v s' q => q.1 ▸ n s' (k.trans q.2) q.2) fun _ _ q => q
theorem BinOk.wp {op a b r v u} (h : BinOk op a b r) (ac : Act l cx f ρ s₀) (k : K0 s₀ s) (r1 : Rd s.heap f.O a v) (r2 : Rd s.heap f.O b u) : wpAny l.M f.A (binaryOp op v u) (Ends f.O s₀ r) NoE s :=
  wp_ends k (h.ok r1 r2 (ac.gk k).bd (ac.base.k0 k).tab)
theorem EE_none {k p} : EV l cx ρ (.Constant .none k p) .none := .mk fun _ _ _ => wpAny_Constant_none ⟨.refl, rd_none.mpr rfl⟩
theorem EE_bool {b k p} : EV l cx ρ (.Constant (.bool b) k p) (.bool b) := .mk fun _ _ _ => wpAny_Constant_bool .bool
theorem EE_int {i k p} : EV l cx ρ (.Constant (.int i) k p) (.int i) := .mk fun _ _ _ => wpAny_Constant_int .int
theorem EE_flt {x k p} : EV l cx ρ (.Constant (.float x) k p) (.flt x) := .mk fun _ _ _ => AutoFloatOps.wpAny_Constant_float .flt
theorem EE_str {x k p} (h : x.length ≤ sizeLine) : EV l cx ρ (.Constant (.str x) k p) (.str x) := .mk fun _ _ _ => PySem.wpAny_Constant_str (.str h)
theorem EE_bytes {b k p} (h : b.toArray.size ≤ sizeLine) : EV l cx ρ (.Constant (.bytes b) k p) (.bytes b.toArray) := .mk fun f s _ => by
  have q : Ends f.O s (.bytes b.toArray) (.bytes b.toArray s.toks) { s with toks := s.toks + 1 } := ⟨.tick, rd_bytes.mpr ⟨_, rfl, h⟩⟩
  exact fun _ _ _ => q
theorem EE_loc {x p a} (h : kLoc cx x = true) (hl : ρ.lookup x = some (.fz a)) : EV l cx ρ (.Name x p) a := .mk fun f s ac =>
  (ac.fr.at_ x _ hl).elim fun v h' => wpAny_Name (loadName_ok ac.en.kind h'.1 (odd_cd h) ⟨.refl, h'.2⟩) (odd_dbg h)
/-- a global name's value -/
noncomputable def GlobIs (h₁ : Heap) (x : Str) (v : Value) : Prop := ∃ mg mb, h₁.Ns mainGlobals mg ∧ h₁.Ns builtinsNs mb ∧ (mg x = some v ∨ mg x = none ∧ mb x = some v)
theorem glob_ok {x : Str} {pos : Pos} {v : Value} {Q : Value → Shared → Prop} (a : Act l cx f ρ s) (h : kGlob cx x = true) (hg : GlobIs l.h x v) (hQ : Q v s) : wpAny l.M f.A (eval (.Name x pos) f.env) Q NoE s := by
  obtain ⟨mg, mb, g1, g2, g3⟩ := hg
  have g1' : s.heap.Ns f.env.globals mg := a.en.glob ▸ ns_keep a.base (by decide) g1
  have g2' : s.heap.Ns f.env.builtins mb := a.en.bi ▸ ns_keep a.base (by decide) g2
  exact Calls.Name_function_global a.en.kind ((kind_of a x).trans (kGlob_kind h)) (g3.elim (fun g3 => Calls.loadGlobal_global g1' g3 hQ) fun g3 => Calls.loadGlobal_builtin g1' g3.1 g2' g3.2 hQ) (odd_dbg h)
/-- a global name that stands for a value -/
noncomputable def GC (l : L) (x : Str) (a : AV) : Prop := ∃ v, GlobIs l.h x v ∧ ∀ h O, Rd h O a v
theorem EE_glob {x p a} (h : kGlob cx x = true) (g : GC l x a) : EV l cx ρ (.Name x p) a := .mk fun f s ac => g.elim fun v z => glob_ok ac h z.1 ⟨.refl, z.2 _ _⟩
theorem EE_bin {x y op p a b c} (h1 : EV l cx ρ x a) (h2 : EV l cx ρ y b) (h : BinOk op a b c) : EV l cx ρ (.BinOp x op y p) c := .mk fun f s ac =>
  wpAny_BinOp (h1.two h2 ac .refl fun v u s' k r1 r2 => h.wp ac k r1 r2)
theorem EE_neg {x p i} (h : EV l cx ρ x (.int i)) : EV l cx ρ (.UnaryOp .USub x p) (.int (-i)) := .mk fun f s ac =>
  wpAny_UnaryOp (h.go ac .refl fun v s' k _ r => r.intE fun t => neg_int (Ends.trans k .int))
theorem EE_ifT {t a b p r} (h1 : TV l cx ρ t true) (h2 : EV l cx ρ a r) : EV l cx ρ (.IfExp t a b p) r := .mk fun f s ac =>
  wpAny_IfExp (h1.go ac .refl fun s' k _ => h2.go ac k fun v s'' k' _ r => ⟨k', r⟩)
theorem EE_ifF {t a b p r} (h1 : TV l cx ρ t false) (h2 : EV l cx ρ b r) : EV l cx ρ (.IfExp t a b p) r := .mk fun f s ac =>
  wpAny_IfExp (h1.go ac .refl fun s' k _ => h2.go ac k fun v s'' k' _ r => ⟨k', r⟩)
theorem EE_ifB {t a b p} {c : Bool} {r s : AV} (h1 : TV l cx ρ t c) (h2 : c = true → EV l cx ρ a r) (h3 : c = false → EV l cx ρ b s) : EV l cx ρ (.IfExp t a b p) (if c then r else s) := by
  cases c
  · exact EE_ifF h1 (h3 rfl)
  · exact EE_ifT h1 (h2 rfl)
theorem EE_ifI {t a b p} {c : Bool} {i j : Int} (h1 : TV l cx ρ t c) (h2 : c = true → EV l cx ρ a (.int i)) (h3 : c = false → EV l cx ρ b (.int j)) : EV l cx ρ (.IfExp t a b p) (.int (if c = true then i else j)) := by
  cases c
  · exact EE_ifF h1 (h3 rfl)
  · exact EE_ifT h1 (h2 rfl)
theorem noMarks {op : CmpOp} {r : Expr} (h : isSet r = false) : behindInMarks op r = false := by
  cases r <;> first | rfl | exact Bool.noConfusion h
theorem EE_cmp {x y op p a b c} (hs : isSet y = false) (h1 : EV l cx ρ x a) (h2 : EV l cx ρ y b) (h : CmpOk op a b c) : EV l cx ρ (.Compare x [op] [y] p) (.bool c) := .mk fun f s ac =>
  wpAny_Compare1 (h1.two h2 ac .refl fun v u s' k r1 r2 => h.ok r1 r2 ac.go.u80 ⟨k, rd_bool.mpr rfl⟩) (noMarks hs)
theorem TT_cmp {x y op p a b c} (hs : isSet y = false) (h1 : EV l cx ρ x a) (h2 : EV l cx ρ y b) (h : CmpOk op a b c) : TV l cx ρ (.Compare x [op] [y] p) c := .mk fun f s ac =>
  wpAny_isTrue_Compare1 (h1.two h2 ac .refl fun v u s' k r1 r2 => h.ok r1 r2 ac.go.u80 (wpAny_truthy_bool ⟨rfl, k⟩)) (noMarks hs)
theorem TT_not {x p b} (h : TV l cx ρ x b) : TV l cx ρ (.UnaryOp .Not x p) (!b) := .mk fun f s ac => wpAny_isTrue_Not (h.go ac .refl fun s' k _ => ⟨rfl, k⟩)
theorem TT_name {x p b} (h : EV l cx ρ (.Name x p) (.bool b)) : TV l cx ρ (.Name x p) b := .mk fun f s ac =>
  wpAny_isTrue_value (h.go ac .refl fun v s' k _ r => r.boolE (wpAny_truthy_bool ⟨rfl, k⟩)) rfl
theorem TT_call {g as p b} (h : EV l cx ρ (.Call g as [] p) (.bool b)) : TV l cx ρ (.Call g as [] p) b := .mk fun f s ac =>
  wpAny_isTrue_value (h.go ac .refl fun v s' k _ r => r.boolE (wpAny_truthy_bool ⟨rfl, k⟩)) rfl
/-- and, or -/
structure BV (l : L) (cx : Cx) (ρ : Ro) (op : BoolOp) (vs : List Expr) (b : Bool) : Prop where
  ok : ∀ f s₀ s, Act l cx f ρ s₀ → K0 s₀ s → wpAny l.M f.A (allTrue op vs f.env) (fun b' s' => b' = b ∧ K0 s₀ s') NoE s
theorem TT_bools {op vs p c} (h : BV l cx ρ op vs c) : TV l cx ρ (.BoolOp op vs p) c := .mk fun f s ac => wpAny_isTrue_BoolOp (h.ok f s s ac .refl)
theorem bools_and0 : BV l cx ρ .And [] true := .mk fun _ _ _ _ k => wpAny_allTrue_And_nil ⟨rfl, k⟩
theorem bools_or0 : BV l cx ρ .Or [] false := .mk fun _ _ _ _ k => wpAny_allTrue_Or_nil ⟨rfl, k⟩
theorem bools_andC {x rest a b} (h1 : TV l cx ρ x a) (h2 : a = true → BV l cx ρ .And rest b) : BV l cx ρ .And (x :: rest) (a && b) := .mk fun f s₀ s ac k =>
  wpAny_allTrue_And_cons (h1.go ac k fun s' k' _ => by
    cases a
    · exact ⟨rfl, k'⟩
    · exact (h2 rfl).ok f s₀ s' ac k')
theorem bools_orC {x rest a b} (h1 : TV l cx ρ x a) (h2 : a = false → BV l cx ρ .Or rest b) : BV l cx ρ .Or (x :: rest) (a || b) := .mk fun f s₀ s ac k =>
  wpAny_allTrue_Or_cons (h1.go ac k fun s' k' _ => by
    cases a
    · exact (h2 rfl).ok f s₀ s' ac k'
    · exact ⟨rfl, k'⟩)
theorem bools_or {x y : Expr} {a b : Bool} (h1 : TV l cx ρ x a) (h2 : a = false → TV l cx ρ y b) : BV l cx ρ .Or [x, y] (a || b) := by
  have := bools_orC h1 fun e => bools_orC (h2 e) fun _ => bools_or0
  rwa [Bool.or_false] at this
theorem bools_and {x y : Expr} {a b : Bool} (h1 : TV l cx ρ x a) (h2 : a = true → TV l cx ρ y b) : BV l cx ρ .And [x, y] (a && b) := by
  have := bools_andC h1 fun e => bools_andC (h2 e) fun _ => bools_and0
  rwa [Bool.and_true] at this
theorem bools_or3 {x y z : Expr} {a b c : Bool} (h1 : TV l cx ρ x a) (h2 : a = false → TV l cx ρ y b) (h3 : a = false → b = false → TV l cx ρ z c) : BV l cx ρ .Or [x, y, z] (a || (b || c)) :=
  bools_orC h1 fun e => bools_orC (h2 e) fun e' => by
    have := bools_orC (h3 e e') fun _ => bools_or0
    rwa [Bool.or_false] at this
inductive EVs (l : L) (cx : Cx) (ρ : Ro) : List Expr → List AV → Prop
  | nil : EVs l cx ρ [] []
  | cons {e es a as} : isStar e = false → EV l cx ρ e a → EVs l cx ρ es as → EVs l cx ρ (e :: es) (a :: as)
theorem exprs_nil : EVs l cx ρ [] [] := .nil
theorem exprs_cons {e es a as} (hs : isStar e = false) (h1 : EV l cx ρ e a) (h2 : EVs l cx ρ es as) : EVs l cx ρ (e :: es) (a :: as) := .cons hs h1 h2
theorem star_trees {e : Expr} {es : List Expr} {env : Env} {pos : Pos} (h : isStar e = false) : backTo pos (starEach (e :: es) env) = (false, eval e env) :: backTo pos (starEach es env) := by
  cases e <;> first | rfl | exact Bool.noConfusion h
theorem EVs.go {es as pos} {Q : List Value → Shared → Prop} (h : EVs l cx ρ es as) (a : Act l cx f ρ s₀) (k : K0 s₀ s) (n : ∀ vs s', K0 s₀ s' → K0 s s' → RdL s'.heap f.O as vs → Q vs s') : wpAny l.M f.A (spliced (backTo pos (starEach es f.env))) Q NoE s := by
  induction h generalizing s Q with
  | nil => exact Calls.spliced_nil (n [] s k .refl .nil)
  | cons hs h _ ih =>
    rw [star_trees hs]
    exact Calls.spliced_cons (h.go a k fun v s' k1 k' r => ih k1 fun vs s'' k2 k'' rs => n _ _ k2 (k'.trans k'') (.cons (r.k0 k'') rs))
theorem EVs.plain {es as pos} {env : Env} (h : EVs l cx ρ es as) : (backTo pos (starEach es env)).any (·.1) = false ∧ (backTo pos (starEach es env)).all (fun x => !x.1) = true ∧ (backTo pos (starEach es env)).length = es.length := by
  induction h with
  | nil => exact ⟨rfl, rfl, rfl⟩
  | cons hs _ _ ih => rw [star_trees hs]; exact ⟨ih.1, ih.2.1, congrArg (· + 1) ih.2.2⟩
theorem EE_list {es p as} (h : EVs l cx ρ es as) (hz : as.length ≤ sizeLine) : EV l cx ρ (.List es p) (.list as) := .mk fun f s ac =>
  wpAny_List_spliced (h.go ac .refl fun vs s' k _ r => ⟨r.length ▸ hz, Ends.trans k (newList_ok (tk := s'.toks) r (ac.gk k).bd (ac.base.k0 k).tab (r.length ▸ hz) fun h => h)⟩)
theorem EE_tup {es c p as} (h : EVs l cx ρ es as) (hz : as.length ≤ sizeLine) : EV l cx ρ (.Tuple es c p) (.tup as) := .mk fun f s ac =>
  wpAny_Tuple_spliced (h.go ac .refl fun vs s' k _ r => ⟨r.length ▸ hz, Ends.trans k (newTup_ok (tk := s'.toks) r (ac.gk k).bd (ac.base.k0 k).tab (r.length ▸ hz) fun h => h)⟩)
/-- what can be called -/
noncomputable def Callee (h₁ : Heap) (fv : Value) : Prop := (∃ id, fv = .builtin id) ∨ (∃ T, fv = .type T) ∨ ∃ a o fd, fv = .ref a ∧ a ≠ TA ∧ h₁.get? a = some o ∧ o.data = .func fd
/-- a call's arguments, then the call -/
theorem args_ok {pos : Pos} {fv : Value} {first : List Value} {es : List Expr} {as : List AV} {Q : Value → Shared → Prop} (hne : es.isEmpty = false) (he : EVs l cx ρ es as) (a : Act l cx f ρ s₀) (k0 : K0 s₀ s)
    (hf : Callee l.h fv) (h : ∀ vs s', K0 s₀ s' → K0 s s' → RdL s'.heap f.O as vs → wpAny l.M f.A (call fv (first ++ vs)) Q NoE s') :
    wpAny l.M f.A (callWith pos fv first (backTo pos (starEach es f.env)) []) Q NoE s := by
  have hargs : ∀ {Q' : Args → Shared → Prop}, (∀ vs s', K0 s₀ s' → K0 s s' → RdL s'.heap f.O as vs → Q' ⟨vs, []⟩ s') → wpAny l.M f.A (evalArgs fv true (backTo pos (starEach es f.env)) []) Q' NoE s := fun hQ => by
    have hsp := fun Q' => EVs.go (Q := Q') he (pos := pos) a k0
    cases he with
    | nil => cases hne
    | cons hs _ _ =>
      rw [star_trees hs] at hsp ⊢
      exact Calls.evalArgs_plain (hsp _ hQ)
  rcases hf with ⟨id, rfl⟩ | ⟨T, rfl⟩ | ⟨fa, o, fd, rfl, hne', hg, hd⟩
  · exact Calls.callWith_builtin he.plain.1 (hargs h)
  · exact PySem.callWith_type he.plain.1 (hargs h)
  · exact Calls.callWith_function (o := o) (fd := fd) (hargs fun vs s' k k' r => ⟨⟨(a.base.k0 k).keep _ _ hne' hg, hd⟩, h vs s' k k' r⟩)
/-- what a call hands back -/
noncomputable def FnOk (l : L) (fv : Value) (as : List AV) (r : AV) : Prop := ∀ A s O vs, Go l A O s → RdL s.heap O as vs → wpAny l.M A (call fv vs) (Ends O s r) NoE s
/-- a global function's answer -/
noncomputable def FN (l : L) (g : Str) (as : List AV) (r : AV) : Prop := ∃ fv, GlobIs l.h g fv ∧ Callee l.h fv ∧ FnOk l fv as r
theorem EE_call {g p args pos as r} (hg : (kGlob cx g && !args.isEmpty) = true) (h : EVs l cx ρ args as) (hr : FN l g as r) : EV l cx ρ (.Call (.Name g p) args [] pos) r := .mk fun f s ac => by
  rw [Bool.and_eq_true, Bool.not_eq_true'] at hg
  obtain ⟨fv, g1, g2, g3⟩ := hr
  exact wpAny_Call_NameR (glob_ok ac hg.1 g1 (args_ok hg.2 h ac .refl g2 fun vs s' k _ rl => wp_ends k (g3 f.A s' f.O vs (ac.gk k) rl)))
/-- a method's answer -/
noncomputable def MT (l : L) (m : Str) (a : AV) (as : List AV) (r : AV) : Prop := ∃ T id, PlainAttrs T ∧ Slot T m id ∧ typeOf (.builtin id) = pure (.type "method_descriptor") ∧
  (∀ (s : Shared) (O : Addr → Prop) (v : Value), Rd s.heap O a v → s.TypeIs v T ∧ ∀ a, v = .ref a → ∃ ob, s.heap.get? a = some ob ∧ ob.dict = none) ∧ FnOk l (.builtin id) (a :: as) r
/-- an expression that no super() is -/
noncomputable def Plain (o : Expr) : Prop := ∀ nm env w, attributeBase o nm env w = w
theorem EE_meth {o m apos args pos x as r} (hb : Plain o) (hg : ((apos.endLine == pos.line) && !args.isEmpty && decide (args.length < 20)) = true) (h1 : EV l cx ρ o x) (h2 : EVs l cx ρ args as) (hr : MT l m x as r) :
    EV l cx ρ (.Call (.Attribute o m apos) args [] pos) r := .mk fun f s a => by
  simp only [Bool.and_eq_true, Bool.not_eq_true', decide_eq_true_eq] at hg
  obtain ⟨⟨hl, hne⟩, hlen⟩ := hg
  obtain ⟨T, id, pa, sl, hty, htyp, hcall⟩ := hr
  have hp := h2.plain (pos := pos) (env := f.env)
  refine wpAny_Call_method_late (hb _ _ _) ?_ hl rfl (h1.go a .refl fun ov s₁ k _ r1 => ⟨T, id, pa, sl, hty, (htyp s₁ f.O ov r1).1, (htyp s₁ f.O ov r1).2, args_ok (Q := Ends f.O s _) hne h2 a k (.inl ⟨id, rfl⟩) fun vs s' k1 k' rl =>
    wp_ends k1 (hcall f.A s' f.O (ov :: vs) (a.gk k1) (.cons (r1.k0 k') rl))⟩)
  rw [hp.2.1]
  exact decide_eq_true (Nat.lt_trans hlen (by decide : 20 < 30))
end
noncomputable def sliceL (xs : List AV) (lo hi : Option Int) : List AV :=
  (xs.drop (lo.elim 0 (clipAt xs.length))).take (hi.elim xs.length (clipAt xs.length) - lo.elim 0 (clipAt xs.length))
section
variable {l : L} {cx : Cx} {f : Fm} {ρ : Ro} {s s' s₀ : Shared}
theorem sub_fin {A : Around} {value : Expr} {m : Sem Value} {o i : Value} {vs : List Value} {Q : Value → Shared → Prop} (hg : wpAny l.M A m Q NoE s) : wpAny l.M A (operate vs m) (fun r s₃ => wpAny l.M A (letTemporaryGo value o r >>= fun _ => pure r) Q NoE s₃) NoE s :=
  wpAny_operating (wpAny_mono hg (fun r s₃ h₃ => wpAny_bind (wpAny_letTemporaryGo (wpAny_pure h₃))) fun _ _ x => x)
/-- an item by an index, whatever the expressions -/
theorem subscript_any {A : Around} {env : Env} {value slice : Expr} {pos : Pos} {Q : Value → Shared → Prop} (hs : isSlice slice = false)
    (h : wpAny l.M A (eval value env) (fun o s₁ => wpAny l.M A (eval slice env) (fun i s₂ => SubscriptOn l.M A o i Q NoE s₂) NoE s₁) NoE s) :
    wpAny l.M A (eval (.Subscript value slice pos) env) Q NoE s := by
  rw [eval_Subscript]
  refine wpAny_bind (wpAny_mono h (fun o s₁ h₁ => wpAny_bind (wpAny_holding (wpAny_mono h₁ (fun i s₂ h₂ => wpAny_bind (wpAny_standAt (wpAny_bind ?_))) fun _ _ x => x))) fun _ _ x => x)
  obtain ⟨T, id, hl, hT, hg⟩ := h₂
  rw [getitemInPython_of_ne hT.not_modules]
  refine wpAny_bind (wpAny_specialOf hT hl ?_)
  have hsub : subscripted slice false o i = operate [o, i] (getItem o i) := by
    cases slice <;> first | rfl | exact Bool.noConfusion hs
  have fin := sub_fin (value := value) (o := o) (i := i) (vs := [o, i]) hg
  rw [← hsub] at fin
  first
    | exact wpAny_pure (wpAny_bind fin)
    | exact wpAny_bind (wpAny_pure (wpAny_bind fin))
    | exact wpAny_bind fin
theorem subscript_slice {A : Around} {env : Env} {value : Expr} {lower upper : Option Expr} {p pos : Pos} {T id : String} {Q : Value → Shared → Prop} (hl : typeLookup (.type T) "__getitem__" = pure (some (.builtin id)))
    (h : wpAny l.M A (eval value env) (fun o s₁ => wpAny l.M A (eval (.Slice lower upper none p) env) (fun i s₂ => s₂.TypeIs o T ∧ wpAny l.M A (getItem o i) Q NoE s₂) NoE s₁) NoE s) :
    wpAny l.M A (eval (.Subscript value (.Slice lower upper none p) pos) env) Q NoE s := by
  rw [eval_Subscript]
  refine wpAny_bind (wpAny_mono h (fun o s₁ h₁ => wpAny_bind (wpAny_holding (wpAny_mono h₁ (fun i s₂ h₂ => wpAny_bind (wpAny_standAt (wpAny_bind ?_))) fun _ _ x => x))) fun _ _ x => x)
  rw [getitemInPython_of_ne h₂.1.not_modules]
  refine wpAny_bind (wpAny_specialOf h₂.1 hl ?_)
  have fin := sub_fin (value := value) (o := o) (i := i) (vs := [i, o]) h₂.2
  first
    | exact wpAny_pure (wpAny_bind fin)
    | exact wpAny_bind (wpAny_pure (wpAny_bind fin))
    | exact wpAny_bind fin
/-- an item by an index -/
structure IdxOk (a b r : AV) : Prop where
  ok : ∀ {l : L} {A O s va vb}, Rd s.heap O a va → Rd s.heap O b vb → SubscriptOn l.M A va vb (Ends O s r) NoE s
theorem idx_list {xs : List AV} {k : Int} {r : AV} (hk : 0 ≤ k ∧ k < 2 ^ 62) (he : xs[k.toNat]? = some r) : IdxOk (.list xs) (.int k) r := .mk fun ha hb =>
  ha.listE fun a vs n q => hb.intE fun t => (q.item he).elim fun v z => ⟨"list", _, slot_list_getitem.lookup, ⟨_, q.2.2.1, rfl⟩, wpAny_getItem_list q.isL hk.1 (Int.lt_trans hk.2 (by decide)) z.1 ⟨.refl, z.2⟩⟩
theorem idx_tup {xs : List AV} {k : Int} {r : AV} (hk : 0 ≤ k ∧ k < 2 ^ 62) (he : xs[k.toNat]? = some r) : IdxOk (.tup xs) (.int k) r := .mk fun ha hb =>
  ha.tupE fun a vs n q => hb.intE fun t => (q.item he).elim fun v z => by
    have hlt := (Array.getElem?_eq_some_iff.mp z.1).1
    exact ⟨"tuple", _, slot_tuple_getitem.lookup, ⟨_, q.2.2.1, rfl⟩, PyProof.Rows.getItem_tuple (items := vs) (j := k.toNat) q.isT (Int.le_trans (by decide) hk.1) (Int.lt_trans hk.2 (by decide)) (seqIndex_of hk.1 (by omega)) z.1 ⟨.refl, z.2⟩⟩
theorem sub_ends {A O r o i} (k : K0 s₀ s) (h : SubscriptOn l.M A o i (Ends O s r) NoE s) : SubscriptOn l.M A o i (Ends O s₀ r) NoE s :=
  let ⟨T, id, e1, e2, e3⟩ := h; ⟨T, id, e1, e2, wp_ends k e3⟩
theorem EE_idx {v i pos a b r} (hs : isSlice i = false) (h1 : EV l cx ρ v a) (h2 : EV l cx ρ i b) (h : IdxOk a b r) : EV l cx ρ (.Subscript v i pos) r := .mk fun f s ac =>
  subscript_any hs (h1.two h2 ac .refl fun v u s' k r1 r2 => sub_ends k (h.ok r1 r2))
theorem RdL.drop {h : Heap} {O : Addr → Prop} : ∀ {xs : List AV} {vs : List Value}, RdL h O xs vs → ∀ k : Nat, RdL h O (xs.drop k) (vs.drop k)
  | _, _, r, 0 => r
  | [], _, r, k + 1 => r.nilE (G := fun vs => RdL h O _ (vs.drop (k + 1))) .nil
  | x :: xs, _, r, k + 1 => r.consE (G := fun vs => RdL h O _ (vs.drop (k + 1))) fun _ _ _ h => h.drop k
theorem RdL.take {h : Heap} {O : Addr → Prop} : ∀ {xs : List AV} {vs : List Value}, RdL h O xs vs → ∀ k : Nat, RdL h O (xs.take k) (vs.take k)
  | _, _, _, 0 => .nil
  | [], _, r, k + 1 => r.nilE (G := fun vs => RdL h O _ (vs.take (k + 1))) .nil
  | x :: xs, _, r, k + 1 => r.consE (G := fun vs => RdL h O _ (vs.take (k + 1))) fun _ _ q h => .cons q (h.take k)
/-- a slice's ends -/
inductive OV (l : L) (cx : Cx) (ρ : Ro) : Option Expr → Option Int → Prop
  | none : OV l cx ρ none none
  | some {e i} : EV l cx ρ e (.int i) → OV l cx ρ (some e) (some i)
theorem opt_none : OV l cx ρ none none := .none
theorem opt_some {e i} (h : EV l cx ρ e (.int i)) : OV l cx ρ (some e) (some i) := .some h
theorem OV.go {e r} {Q : Value → Shared → Prop} (h : OV l cx ρ e r) (a : Act l cx f ρ s₀) (k : K0 s₀ s) (n : ∀ q : Option (Int × Tok), ∀ s', q.map (·.1) = r → K0 s₀ s' → K0 s s' → Q (partValue q) s') : wpAny l.M f.A (evalPart e f.env) Q NoE s := by
  cases h with
  | none => exact wpAny_evalPart_none (n Option.none s rfl k .refl)
  | some h => exact wpAny_evalPart_some (h.go a k fun v s' k1 k' r => r.intE fun t => n (Option.some (_, t)) s' rfl k1 k')
theorem isPart_of (q : Option (Int × Tok)) : IsPart (partValue q) (q.map (·.1)) := by
  cases q with
  | none => exact .none
  | some q => exact .int _ _
/-- a value, then a slice -/
theorem slice_go {v lo hi p r x y} {Q : Value → Value → Shared → Prop} (h1 : EV l cx ρ v r) (h2 : OV l cx ρ lo x) (h3 : OV l cx ρ hi y) (a : Act l cx f ρ s)
    (n : ∀ o ql qh s', K0 s s' → ql.map (·.1) = x → qh.map (·.1) = y → Rd s'.heap f.O r o → Q o (.ref s'.heap.objs.size) { s' with heap := s'.heap.push { cls := .type "slice", data := .fields #[partValue ql, partValue qh, .none] } }) :
    wpAny l.M f.A (eval v f.env) (fun o s₁ => wpAny l.M f.A (eval (.Slice lo hi none p) f.env) (fun i s₂ => Q o i s₂) NoE s₁) NoE s :=
  h1.go a .refl fun o s₁ k1 _ r1 => wpAny_Slice (h2.go a k1 fun ql s₂ e2 k2 k2' => h3.go a k2 fun qh s₃ e3 k3 k3' => by
    rw [evalPart_none]
    exact wpAny_pure (n o ql qh s₃ k3 e2 e3 ((r1.k0 k2').k0 k3')))
theorem hi_le (n : Nat) (y : Option Int) : y.elim n (clipAt n) ≤ n := by
  cases y with
  | none => exact Nat.le_refl _
  | some i => exact Int.ofNat_le.mp (show ((clipAt n i : Nat) : Int) ≤ n by rw [clipAt_cast]; exact Int.max_le.mpr ⟨Int.natCast_nonneg _, Int.min_le_right _ _⟩)
theorem EE_slL {v lo hi p pos xs x y} (h1 : EV l cx ρ v (.list xs)) (h2 : OV l cx ρ lo x) (h3 : OV l cx ρ hi y) : EV l cx ρ (.Subscript v (.Slice lo hi none p) pos) (.list (sliceL xs x y)) := .mk fun f s a =>
  subscript_slice (T := "list") list_getitem_lookup (slice_go h1 h2 h3 a fun o ql qh s₃ k e2 e3 r => by
    subst e2; subst e3
    have kk : K0 s₃ { s₃ with heap := s₃.heap.push { cls := .type "slice", data := .fields #[partValue ql, partValue qh, .none] } } := .push1
    refine (r.k0 kk).listE fun b vs n g => ⟨g.isL.typeIs, wpAny_getItem_list_slice g.isL (Heap.IsSliceOf.new ..) (isPart_of _) (isPart_of _) .none (by simp) ?_ g.2.2.2.1⟩
    refine Ends.trans (k.trans kk) ?_
    rw [slicePick_plain, g.len]
    refine newList_ok (tk := s₃.toks) ((g.2.2.2.2.drop _).take _) (a.gk (k.trans kk)).bd (a.base.k0 (k.trans kk)).tab ?_ fun h => h
    refine Nat.le_trans (List.length_take_le _ _) (Nat.le_trans (Nat.sub_le _ _) ?_)
    refine Nat.le_trans ?_ g.2.2.2.1
    rw [g.len]
    exact hi_le _ _)
theorem EE_slLE {v lo hi p pos xs x y ys} (h1 : EV l cx ρ v (.list xs)) (h2 : OV l cx ρ lo x) (h3 : OV l cx ρ hi y) (hy : sliceL xs x y = ys) : EV l cx ρ (.Subscript v (.Slice lo hi none p) pos) (.list ys) := hy ▸ EE_slL h1 h2 h3
theorem EE_slS {v lo hi p pos z x y} (h1 : EV l cx ρ v (.str z)) (h2 : OV l cx ρ lo x) (h3 : OV l cx ρ hi y) : EV l cx ρ (.Subscript v (.Slice lo hi none p) pos) (.str (Txt.slice z x y)) := .mk fun f s a =>
  subscript_slice (T := "str") F.slot_str_getitem.lookup (slice_go h1 h2 h3 a fun o ql qh s₃ k e2 e3 r => by
    subst e2; subst e3
    have kk : K0 s₃ { s₃ with heap := s₃.heap.push { cls := .type "slice", data := .fields #[partValue ql, partValue qh, .none] } } := .push1
    refine r.strE fun t hz => ⟨typeIs_str _ z t, with_tk (wpAny_getItem_str_slice (l := ql) (u := qh) (st := none) ⟨_, Heap.get?_push_size _ rfl, rfl, rfl⟩ rfl ?_)⟩
    exact post_val_or_str ⟨Nat.le_trans (Txt.slice_le z _ _) hz, fun t' tk htk => Ends.trans (k.trans kk) (.strT (s := { s₃ with heap := s₃.heap.push _ }) (Nat.le_trans (Txt.slice_le z _ _) hz) htk)⟩)
theorem ix_0 {a r} : IdxOk (.list (a :: r)) (.int 0) a := idx_list (by decide) rfl
theorem ix_1 {a b r} : IdxOk (.list (a :: b :: r)) (.int 1) b := idx_list (by decide) rfl
theorem ix_2 {a b c r} : IdxOk (.list (a :: b :: c :: r)) (.int 2) c := idx_list (by decide) rfl
theorem ix_3 {a b c d r} : IdxOk (.list (a :: b :: c :: d :: r)) (.int 3) d := idx_list (by decide) rfl
theorem it_0 {a r} : IdxOk (.tup (a :: r)) (.int 0) a := idx_tup (by decide) rfl
theorem it_1 {a b r} : IdxOk (.tup (a :: b :: r)) (.int 1) b := idx_tup (by decide) rfl
end
/-- the cells that a comprehension takes from around it -/
noncomputable def clOf (env : Env) : List (Str × NameKind) → List (Str × Addr) → List (Str × Addr)
  | [], acc => acc
  | (n, k) :: r, acc => if k == .free then clOf env r ((n, (env.cells.lookup n).getD 0) :: acc) else clOf env r acc
theorem closureFor_is {scope : Scope} {env : Env} (h : ∀ x ∈ scope.names, x.2 = .free → (env.cells.lookup x.1).isSome = true) : closureFor scope env = pure (clOf env scope.names []) := by
  unfold closureFor
  have key : ∀ (names : List (Str × NameKind)) (acc : List (Str × Addr)), (∀ x ∈ names, x.2 = .free → (env.cells.lookup x.1).isSome = true) →
      (forIn (m := Sem) names acc fun (x : Str × NameKind) cs => (match x with
        | (name, kind) => if (kind == NameKind.free) = true then do let c ← cellOf env name; pure (ForInStep.yield ((name, c) :: cs)) else pure (ForInStep.yield cs))) = pure (clOf env names acc) := by
    intro names
    induction names with
    | nil => intro acc _; rfl
    | cons x r ih =>
      intro acc hx
      obtain ⟨n, k⟩ := x
      rw [List.forIn_cons]
      unfold clOf
      by_cases hk : k = .free
      · subst hk
        have hs := hx (n, .free) List.mem_cons_self rfl
        obtain ⟨c, hc⟩ := Option.isSome_iff_exists.mp hs
        have hc' : cellOf env n = pure c := by unfold cellOf; rw [hc]
        simp only [beq_self_eq_true, if_true, hc', pure_bind, hc, Option.getD_some]
        exact ih _ fun y hy => hx y (List.mem_cons_of_mem _ hy)
      · have hb : (k == NameKind.free) = false := by simpa using hk
        simp only [hb, Bool.false_eq_true, if_false, pure_bind]
        exact ih _ fun y hy => hx y (List.mem_cons_of_mem _ hy)
  have := key scope.names [] h
  simpa using this
theorem clOf_lookup {env : Env} : ∀ {names : List (Str × NameKind)} {acc : List (Str × Addr)} {n : Str} {c : Addr}, (∀ x ∈ names, x.2 = .free → (env.cells.lookup x.1).isSome = true) →
    (clOf env names acc).lookup n = some c → acc.lookup n = some c ∨ ((n, NameKind.free) ∈ names ∧ env.cells.lookup n = some c)
  | [], _, _, _, _, h => .inl h
  | (m, k) :: r, acc, n, c, hx, h => by
    unfold clOf at h
    have hr : ∀ x ∈ r, x.2 = .free → (env.cells.lookup x.1).isSome = true := fun y hy => hx y (List.mem_cons_of_mem _ hy)
    by_cases hk : k = .free
    · subst hk
      simp only [beq_self_eq_true, if_true] at h
      rcases clOf_lookup hr h with h' | ⟨h1, h2⟩
      · rw [List.lookup_cons] at h'
        by_cases hn : n = m
        · subst hn
          simp only [beq_self_eq_true] at h'
          obtain ⟨c', hc'⟩ := Option.isSome_iff_exists.mp (hx (n, .free) List.mem_cons_self rfl)
          rw [hc'] at h'
          cases h'
          exact .inr ⟨List.mem_cons_self, hc'⟩
        · have : (n == m) = false := beq_eq_false_iff_ne.mpr hn
          rw [this] at h'
          exact .inl h'
      · exact .inr ⟨List.mem_cons_of_mem _ h1, h2⟩
    · have hb : (k == NameKind.free) = false := by simpa using hk
      rw [hb] at h
      simp only [Bool.false_eq_true, if_false] at h
      rcases clOf_lookup hr h with h' | ⟨h1, h2⟩
      · exact .inl h'
      · exact .inr ⟨List.mem_cons_of_mem _ h1, h2⟩
theorem clOf_has {env : Env} : ∀ {names : List (Str × NameKind)} {acc : List (Str × Addr)} {n : Str}, ((n, NameKind.free) ∈ names ∨ (acc.lookup n).isSome = true) → ((clOf env names acc).lookup n).isSome = true
  | [], _, _, h => by
    rcases h with h | h
    · cases h
    · exact h
  | (m, k) :: r, acc, n, h => by
    unfold clOf
    by_cases hk : k = .free
    · subst hk
      simp only [beq_self_eq_true, if_true]
      refine clOf_has ?_
      by_cases hn : n = m
      · subst hn
        right; simp [List.lookup_cons]
      · rcases h with h | h
        · rcases List.mem_cons.mp h with e | h
          · cases e; exact absurd rfl hn
          · exact .inl h
        · right
          have : (n == m) = false := beq_eq_false_iff_ne.mpr hn
          rw [List.lookup_cons, this]; exact h
    · have hb : (k == NameKind.free) = false := by simpa using hk
      rw [hb]
      simp only [Bool.false_eq_true, if_false]
      refine clOf_has ?_
      rcases h with h | h
      · rcases List.mem_cons.mp h with e | h
        · cases e; exact absurd rfl hk
        · exact .inl h
      · exact .inr h
theorem pushCells_size : ∀ (names : List (Str × NameKind)) (h : Heap), h.objs.size ≤ (pushCells h names).objs.size
  | [], h => Nat.le_refl _
  | (_, k) :: r, h => by
    unfold pushCells
    split
    · refine Nat.le_trans ?_ (pushCells_size r _)
      rw [Heap.size_push]; exact Nat.le_succ _
    · exact pushCells_size r h
theorem cellsFrom_lookup : ∀ {names : List (Str × NameKind)} {h : Heap} {acc : List (Str × Addr)} {n : Str} {c : Addr}, (cellsFrom h.objs.size names acc).lookup n = some c →
    acc.lookup n = some c ∨ ((n, NameKind.cell) ∈ names ∧ h.objs.size ≤ c ∧ (pushCells h names).IsCell c none)
  | [], _, _, _, _, e => .inl e
  | (m, k) :: r, h, acc, n, c, e => by
    unfold cellsFrom at e
    unfold pushCells
    by_cases hk : (k == NameKind.cell) = true
    · rw [if_pos hk] at e ⊢
      have hz : h.objs.size + 1 = (h.push { cls := .type "cell", data := .cell none }).objs.size := (Heap.size_push ..).symm
      rw [hz] at e
      rcases cellsFrom_lookup e with e' | ⟨e1, e2, e3⟩
      · rw [List.lookup_cons] at e'
        by_cases hn : n = m
        · subst hn
          simp only [beq_self_eq_true] at e'
          cases e'
          refine .inr ⟨?_, Nat.le_refl _, ?_⟩
          · rw [eq_of_beq hk]; exact List.mem_cons_self
          · exact ⟨_, pushCells_keeps r _ _ _ (Heap.get?_push_size _ rfl), rfl⟩
        · have : (n == m) = false := beq_eq_false_iff_ne.mpr hn
          rw [this] at e'
          exact .inl e'
      · rw [Heap.size_push] at e2
        exact .inr ⟨List.mem_cons_of_mem _ e1, Nat.le_of_succ_le e2, e3⟩
    · rw [if_neg hk] at e ⊢
      rcases cellsFrom_lookup e with e' | ⟨e1, e2, e3⟩
      · exact .inl e'
      · exact .inr ⟨List.mem_cons_of_mem _ e1, e2, e3⟩
theorem cellsFrom_has : ∀ {names : List (Str × NameKind)} {k0 : Nat} {acc : List (Str × Addr)} {n : Str}, ((n, NameKind.cell) ∈ names ∨ (acc.lookup n).isSome = true) → ((cellsFrom k0 names acc).lookup n).isSome = true
  | [], _, _, _, h => by
    rcases h with h | h
    · cases h
    · exact h
  | (m, k) :: r, k0, acc, n, h => by
    unfold cellsFrom
    by_cases hk : (k == NameKind.cell) = true
    · rw [if_pos hk]
      refine cellsFrom_has ?_
      by_cases hn : n = m
      · subst hn; right; simp [List.lookup_cons]
      · rcases h with h | h
        · rcases List.mem_cons.mp h with e | h
          · cases e; exact absurd rfl hn
          · exact .inl h
        · right
          have : (n == m) = false := beq_eq_false_iff_ne.mpr hn
          rw [List.lookup_cons, this]; exact h
    · rw [if_neg hk]
      refine cellsFrom_has ?_
      rcases h with h | h
      · rcases List.mem_cons.mp h with e | h
        · cases e; exact absurd rfl hk
        · exact .inl h
      · exact .inr h
/-- the cells' addresses part the names -/
theorem cellsFrom_apart : ∀ {names : List (Str × NameKind)} {h : Heap} {acc : List (Str × Addr)}, (∀ n n' c, acc.lookup n = some c → acc.lookup n' = some c → n = n') → (∀ n c, acc.lookup n = some c → c < h.objs.size) →
    ∀ n n' c, (cellsFrom h.objs.size names acc).lookup n = some c → (cellsFrom h.objs.size names acc).lookup n' = some c → n = n'
  | [], _, _, ha, _ => ha
  | (m, k) :: r, h, acc, ha, hb => by
    unfold cellsFrom
    by_cases hk : (k == NameKind.cell) = true
    · rw [if_pos hk]
      have hz : h.objs.size + 1 = (h.push { cls := .type "cell", data := .cell none }).objs.size := (Heap.size_push ..).symm
      rw [hz]
      have look : ∀ n c, ((m, h.objs.size) :: acc).lookup n = some c → (n = m ∧ c = h.objs.size) ∨ (n ≠ m ∧ acc.lookup n = some c) := by
        intro n c e
        rw [List.lookup_cons] at e
        by_cases hn : n = m
        · subst hn
          simp only [beq_self_eq_true] at e
          cases e; exact .inl ⟨rfl, rfl⟩
        · have : (n == m) = false := beq_eq_false_iff_ne.mpr hn
          rw [this] at e
          exact .inr ⟨hn, e⟩
      refine cellsFrom_apart ?_ ?_
      · intro n n' c e e'
        rcases look n c e with ⟨h1, h2⟩ | ⟨h1, h2⟩ <;> rcases look n' c e' with ⟨h3, h4⟩ | ⟨h3, h4⟩
        · rw [h1, h3]
        · exact absurd (hb _ _ h4) (by rw [h2]; exact Nat.lt_irrefl _)
        · exact absurd (hb _ _ h2) (by rw [h4]; exact Nat.lt_irrefl _)
        · exact ha _ _ _ h2 h4
      · intro n c e
        rw [Heap.size_push]
        rcases look n c e with ⟨_, h2⟩ | ⟨_, h2⟩
        · rw [h2]; exact Nat.lt_succ_self _
        · exact Nat.lt_succ_of_lt (hb _ _ h2)
    · rw [if_neg hk]
      exact cellsFrom_apart ha hb
section
variable {M : Model} {A : Around} {E : Value → Shared → Prop} {s : Shared}
theorem newEnv_comp {scope : Scope} {globals : Addr} {cl : List (Str × Addr)} {qual : Str} {around : Env} {builtins : Addr} {Q : Env → Shared → Prop}
    (hQ : Q { scope, locals := s.heap.objs.size, globals, cells := cellsFrom (s.heap.objs.size + 1) scope.names cl, qual, func := none, code := around.code, frame := around.frame, builtins := around.builtins }
      { s with heap := pushCells (s.heap.push { cls := .type "dict", data := .dict #[] }) scope.names }) :
    wpAny M A (newFunctionEnv scope globals cl [] qual none .none (some around) builtins) Q E s := by
  simp only [newFunctionEnv, Option.isSome_some, if_true]
  refine wpAny_bind (wpAny_alloc ?_)
  refine wpAny_bind (wpAny_layCells _ (fun name kind cells => by cases hkc : kind == NameKind.cell <;> simp [hkc]) _ _ _ _ ?_)
  rw [show ({ s with heap := s.heap.push { cls := .type "dict", data := .dict #[] } } : Shared).heap.objs.size = s.heap.objs.size + 1 from Heap.size_push ..]
  rw [List.forIn_nil]
  exact wpAny_bind (wpAny_pure (wpAny_pure hQ))
end
noncomputable def okScope (sc : Scope) : Bool := sc.kind == .function && sc.names.all fun x => sc.names.lookup x.1 == some x.2
noncomputable def ownOf (sc : Scope) : List Str := sc.names.filterMap fun x => if x.2 == .cell then some x.1 else none
noncomputable def relabelC (sc outer : Scope) : Scope :=
  { sc with names := sc.names.map fun (n, k) => if (k == .free && outer.kind == .function && outer.names.lookup n == some .cell) then (n, .cell) else (n, k) }
noncomputable def capOk (cx : Cx) (sc : Scope) : Bool := sc.names.all fun x => x.2 != .free || kOf cx x.1 == some .cell || kOf cx x.1 == some .free
noncomputable def capA (ρ : Ro) : List (Str × NameKind) → Ro
  | [] => []
  | (n, k) :: r => if k == .free then (match ρ.get n with
    | some a => (n, Sl.fz a) :: capA ρ r
    | none => capA ρ r) else capA ρ r
noncomputable def inCx (cx : Cx) (sc : Scope) : Cx := ⟨relabelC sc cx.sc, ownOf sc⟩
theorem capA_lookup {ρ : Ro} : ∀ {names : List (Str × NameKind)} {n : Str} {sl : Sl}, (capA ρ names).lookup n = some sl → (n, NameKind.free) ∈ names ∧ ∃ a, sl = .fz a ∧ ρ.get n = some a
  | [], _, _, h => by rw [capA] at h; cases h
  | (m, k) :: r, n, sl, h => by
    unfold capA at h
    by_cases hk : (k == NameKind.free) = true
    · rw [if_pos hk] at h
      have rest : (capA ρ r).lookup n = some sl → (n, NameKind.free) ∈ (m, k) :: r ∧ ∃ a, sl = .fz a ∧ ρ.get n = some a := fun h => ⟨List.mem_cons_of_mem _ (capA_lookup h).1, (capA_lookup h).2⟩
      split at h
      · rename_i a ha
        rw [List.lookup_cons] at h
        by_cases hn : n = m
        · subst hn
          simp only [beq_self_eq_true] at h
          cases h
          exact ⟨by rw [eq_of_beq hk]; exact List.mem_cons_self, a, rfl, ha⟩
        · have : (n == m) = false := beq_eq_false_iff_ne.mpr hn
          rw [this] at h
          exact rest h
      · exact rest h
    · rw [if_neg hk] at h
      exact ⟨List.mem_cons_of_mem _ (capA_lookup h).1, (capA_lookup h).2⟩
theorem relabel_lookup (outer : Scope) : ∀ (names : List (Str × NameKind)) (n : Str),
    (names.map fun (n, k) => if (k == .free && outer.kind == .function && outer.names.lookup n == some .cell) then (n, NameKind.cell) else (n, k)).lookup n =
      (names.lookup n).map fun k => if (k == .free && outer.kind == .function && outer.names.lookup n == some .cell) then NameKind.cell else k
  | [], n => rfl
  | (m, k) :: r, n => by
    have e : ∀ (c : Bool), (if c = true then (m, NameKind.cell) else (m, k)) = (m, if c = true then NameKind.cell else k) := fun c => by cases c <;> rfl
    simp only [List.map_cons, e]
    rw [List.lookup_cons, List.lookup_cons]
    by_cases hn : n = m
    · subst hn; simp
    · have : (n == m) = false := beq_eq_false_iff_ne.mpr hn
      rw [this]
      exact relabel_lookup outer r n
theorem mem_ownOf {sc : Scope} {n : Str} (h : n ∈ ownOf sc) : (n, NameKind.cell) ∈ sc.names := by
  unfold ownOf at h
  obtain ⟨⟨m, k⟩, hm, he⟩ := List.mem_filterMap.mp h
  dsimp only at he
  split at he
  · rename_i hk
    cases he
    rw [← eq_of_beq hk]; exact hm
  · cases he
theorem lookup_mem {α : Type} : ∀ {l : List (Str × α)} {n : Str} {c : α}, l.lookup n = some c → (n, c) ∈ l := mem_of_lookup
section
variable {l : L} {cx : Cx} {f : Fm} {ρ : Ro} {s : Shared}
noncomputable abbrev dictO : Obj := { cls := .type "dict", data := .dict #[] }
noncomputable abbrev listO : Obj := { cls := .type "list", data := .seq #[] }
/-- the frame within a comprehension -/
@[reducible] noncomputable def inF (A : Around) (cenv : Env) (O W : Addr → Prop) (s₂ s₄ : Shared) : Fm := ⟨A, cenv, fun b => O b ∨ W b ∨ (s₂.heap.objs.size ≤ b ∧ b < s₄.heap.objs.size), fun b => s₂.heap.objs.size + 1 ≤ b ∧ b < s₄.heap.objs.size⟩
structure CompIn (l : L) (cx : Cx) (A : Around) (cenv : Env) (O : Addr → Prop) (W : Addr → Prop) (ρ : Ro) (s s₂ s₄ : Shared) : Prop where
  act : Act l cx (inF A cenv O W s₂ s₄) ρ s₄
  acc : s₄.heap.PlainList s₂.heap.objs.size #[]
  k : K0 s₂ s₄
  far : ∀ n c, cenv.cells.lookup n = some c → @LT.lt Nat _ c s.heap.objs.size ∨ @LT.lt Nat _ (s₂.heap.objs.size + 1) c
  fns : ∃ m, s₄.heap.Ns cenv.locals m
theorem comp_act (a : Act l cx f ρ s) {sc : Scope} (hok : okScope sc = true) (hcap : capOk cx sc = true) {s₂ : Shared} (k : K0 s s₂) {W : Addr → Prop} (hW : ∀ b, W b → s.heap.objs.size ≤ b ∧ b < s₂.heap.objs.size) :
    CompIn l (inCx cx sc) f.A
      { scope := relabel sc f.env, locals := s₂.heap.objs.size + 1, globals := f.env.globals, cells := cellsFrom (s₂.heap.objs.size + 1 + 1) sc.names (clOf f.env sc.names []), qual := f.env.qual, func := none, code := f.env.code, frame := f.env.frame, builtins := f.env.builtins }
      f.O W (capA ρ sc.names) s s₂ { s₂ with heap := pushCells ((s₂.heap.push listO).push dictO) sc.names } := by
  unfold okScope at hok
  rw [Bool.and_eq_true, List.all_eq_true] at hok
  obtain ⟨hkind, hdist⟩ := hok
  have hkind := eq_of_beq hkind
  unfold capOk at hcap
  rw [List.all_eq_true] at hcap
  have dist : ∀ n k, (n, k) ∈ sc.names → sc.names.lookup n = some k := fun n k h => eq_of_beq (hdist (n, k) h)
  have a2 := a.k0 k
  have hT := TA_lt a2.base.tab
  have hcapE : ∀ x ∈ sc.names, x.2 = .free → (f.env.cells.lookup x.1).isSome = true := fun x hx hf => by
    have := hcap x hx
    rw [hf] at this
    simp only [bne_self_eq_false, Bool.false_or, Bool.or_eq_true, beq_iff_eq] at this
    refine a.en.has x.1 ?_
    rw [kind_of a x.1]
    exact this
  generalize hN : s₂.heap.objs.size = N at *
  have z3 : (s₂.heap.push listO).objs.size = N + 1 := by rw [Heap.size_push, hN]
  have z4 : ((s₂.heap.push listO).push dictO).objs.size = N + 1 + 1 := by rw [Heap.size_push, z3]
  have z5 : N + 1 + 1 ≤ (pushCells ((s₂.heap.push listO).push dictO) sc.names).objs.size := by rw [← z4]; exact pushCells_size _ _
  generalize hH4 : pushCells ((s₂.heap.push listO).push dictO) sc.names = H4 at *
  have old : ∀ b o, s₂.heap.get? b = some o → H4.get? b = some o := fun b o e => hH4 ▸ pushCells_keeps _ _ b o (Heap.get?_push_of_some _ (Heap.get?_push_of_some _ e))
  have kk : K0 s₂ { s₂ with heap := H4 } := K0.heap1 old (by rw [hN]; exact Nat.le_trans (Nat.le_add_right N 2) z5)
  have gD : H4.get? N = some listO := hH4 ▸ pushCells_keeps _ _ _ _ (Heap.get?_push_of_some _ (hN ▸ Heap.get?_push_size _ rfl))
  have gC : H4.get? (N + 1) = some dictO := hH4 ▸ pushCells_keeps _ _ _ _ (z3 ▸ Heap.get?_push_size _ rfl)
  have ltC : ∀ {n c}, f.env.cells.lookup n = some c → @LT.lt Nat _ c N := fun {n c} h => by
    obtain ⟨_, _, _, v, o, ho, _⟩ := a2.en.cells n c h
    exact hN ▸ Heap.lt_size ho
  have hcl : ∀ {n c}, (clOf f.env sc.names []).lookup n = some c → (n, NameKind.free) ∈ sc.names ∧ f.env.cells.lookup n = some c := fun h => by
    rcases clOf_lookup hcapE h with h | h
    · cases h
    · exact h
  have hcf : ∀ {n c}, (cellsFrom (N + 1 + 1) sc.names (clOf f.env sc.names [])).lookup n = some c →
      ((n, NameKind.free) ∈ sc.names ∧ f.env.cells.lookup n = some c) ∨ ((n, NameKind.cell) ∈ sc.names ∧ @LE.le Nat _ (N + 1 + 1) c ∧ H4.IsCell c none) := fun {n c} h => by
    rw [← z4] at h
    rcases cellsFrom_lookup h with h | ⟨h1, h2, h3⟩
    · exact .inl (hcl h)
    · exact .inr ⟨h1, z4 ▸ h2, hH4 ▸ h3⟩
  have kindIn : ∀ n, Env.kindOf { scope := relabel sc f.env, locals := N + 1, globals := f.env.globals, cells := cellsFrom (N + 1 + 1) sc.names (clOf f.env sc.names []), qual := f.env.qual, func := none, code := f.env.code, frame := f.env.frame, builtins := f.env.builtins } n =
      (sc.names.lookup n).map fun k => if (k == .free && f.env.scope.kind == .function && f.env.scope.names.lookup n == some .cell) then NameKind.cell else k := fun n => relabel_lookup f.env.scope sc.names n
  have hfar : ∀ n c, (cellsFrom (N + 1 + 1) sc.names (clOf f.env sc.names [])).lookup n = some c → @LT.lt Nat _ c s.heap.objs.size ∨ @LT.lt Nat _ (N + 1) c := fun n c h => by
    rcases hcf h with ⟨_, h2⟩ | ⟨_, h2, _⟩
    · obtain ⟨_, _, _, v, o, ho, _⟩ := a.en.cells n c h2
      exact .inl (Heap.lt_size ho)
    · exact .inr h2
  refine ⟨⟨?_, a.hh, a.dep, a.uni, kk.tk a2.tk, a2.base.k0 kk, ?_, ?_⟩, ⟨0, hN ▸ gD⟩, kk, hN.symm ▸ hfar, ⟨_, _, #[], 0, gC, rfl, fun e he => by simp at he, fun _ => rfl⟩⟩
  · show relabel sc f.env = relabelC sc cx.sc
    rw [← a.sc]; rfl
  · refine ⟨hkind, a.en.glob, a.en.bi, ⟨_, _, #[], 0, gC, rfl, fun e he => by simp at he, fun _ => rfl⟩, ⟨Nat.le_of_eq (by rw [hN]), z5⟩, fun n c h => ?_, fun n c hn h => ?_, fun n hn => ?_, fun n n' c h h' => ?_, fun n hn => ?_, fun b hb => ?_, fun b hb => ?_, fun b hb => ?_⟩
    · rcases hcf h with ⟨h1, h2⟩ | ⟨h1, h2, h3⟩
      · obtain ⟨e1, e2, e3, v, o, ho, hd⟩ := a2.en.cells n c h2
        exact ⟨.inl e1, e2, Nat.ne_of_lt (Nat.lt_succ_of_lt (ltC h2)), v, o, old _ _ ho, hd⟩
      · have hlt := h3.lt
        refine ⟨.inr (.inr ⟨hN ▸ Nat.le_trans (Nat.le_add_right N 2) h2, hlt⟩), ?_, ?_, none, h3⟩
        · exact Nat.ne_of_gt (Nat.lt_of_lt_of_le (hN ▸ hT) (Nat.le_trans (Nat.le_add_right N 2) h2))
        · exact Nat.ne_of_gt (Nat.lt_of_lt_of_le (Nat.lt_succ_self _) h2)
    · have hmc := mem_ownOf hn
      rcases hcf h with ⟨h1, h2⟩ | ⟨h1, h2, h3⟩
      · have e1 := dist _ _ h1
        rw [dist _ _ hmc] at e1; cases e1
      · exact ⟨by rw [hN]; exact Nat.le_of_succ_le h2, h3.lt⟩
    · have hmc := mem_ownOf hn
      refine ⟨?_, cellsFrom_has (.inl hmc)⟩
      rw [kindIn, dist _ _ hmc]; rfl
    · have hap := cellsFrom_apart (names := sc.names) (h := (s₂.heap.push listO).push dictO) (acc := clOf f.env sc.names []) (fun n n' c e e' => a.en.apart n n' c (hcl e).2 (hcl e').2)
        (fun n c e => by rw [z4]; exact Nat.lt_of_lt_of_le (ltC (hcl e).2) (Nat.le_add_right N 2))
      rw [z4] at hap
      exact hap n n' c h h'
    · rw [kindIn] at hn
      have hm : (n, NameKind.cell) ∈ sc.names ∨ (n, NameKind.free) ∈ sc.names := by
        cases hl : sc.names.lookup n with
        | none => rw [hl] at hn; rcases hn with hn | hn <;> cases hn
        | some kd =>
          rw [hl] at hn
          have hmem := lookup_mem hl
          simp only [Option.map_some, Option.some.injEq] at hn
          cases kd <;> first
            | exact .inl hmem
            | exact .inr hmem
            | (exfalso; rcases hn with hn | hn <;> simp at hn)
      rcases hm with hm | hm
      · exact cellsFrom_has (.inl hm)
      · exact cellsFrom_has (.inr (clOf_has (.inl hm)))
    · exact .inr (.inr ⟨by have := hb.1; rw [hN] at this ⊢; exact Nat.le_of_succ_le this, hb.2⟩)
    · obtain ⟨m, hns⟩ := a2.en.ns
      have h9 := (a2.en.muN _ a2.en.muL).1
      have h8 := hns.lt
      rw [hN] at h8
      have h7 := hb.1
      rw [hN] at h7
      exact ⟨Nat.le_trans (Nat.le_of_lt (Nat.lt_of_le_of_lt h9 h8)) (Nat.le_of_succ_le h7), Nat.ne_of_gt (Nat.lt_of_lt_of_le (hN ▸ hT) (Nat.le_of_succ_le h7))⟩
    · show b < H4.objs.size
      rcases hb with hb | hb | hb
      · have := a2.en.bound b hb
        rw [hN] at this
        exact Nat.lt_of_lt_of_le this (Nat.le_trans (Nat.le_add_right N 2) z5)
      · have := (hW b hb).2
        exact Nat.lt_of_lt_of_le this (Nat.le_trans (Nat.le_add_right N 2) z5)
      · exact hb.2
  · refine ⟨fun n sl h => ?_, fun x y xs ys v _ hx _ _ _ => ?_⟩
    · obtain ⟨hm, av, rfl, hg⟩ := capA_lookup h
      have hg' : ρ.lookup n = some (.fz av) := by
        unfold Ro.get at hg
        split at hg
        · rename_i e; cases hg; exact e
        · cases hg
      obtain ⟨v, hv0, hs⟩ := a.fr.at_ n _ hg'
      have hv := hv0.mono (h' := s₂.heap) fun b o hb hm => k.heap b o (Mem_ne_TA a.en hm) (fun h => h) hb
      refine ⟨v, ?_, ?_⟩
      · have hko := hcap _ hm
        simp only [bne_self_eq_false, Bool.false_or, Bool.or_eq_true, beq_iff_eq] at hko
        rw [← kind_of a n] at hko
        rcases hv with ⟨kl, _⟩ | ⟨_, c, hc, o, ho, hd⟩
        · rw [kl] at hko; rcases hko with hko | hko <;> cases hko
        · refine .inr ⟨?_, c, ?_, o, old _ _ ho, hd⟩
          · rw [kindIn, dist _ _ hm]
            simp only [Option.map_some, Option.some.injEq]
            by_cases hq : (NameKind.free == NameKind.free && f.env.scope.kind == ScopeKind.function && f.env.scope.names.lookup n == some NameKind.cell) = true
            · rw [if_pos hq]; exact .inl rfl
            · rw [if_neg hq]; exact .inr rfl
          · have hs' := cellsFrom_has (k0 := N + 1 + 1) (.inr (clOf_has (env := f.env) (acc := []) (.inl hm)) : (n, NameKind.cell) ∈ sc.names ∨ ((clOf f.env sc.names []).lookup n).isSome = true)
            obtain ⟨c', hc'⟩ := Option.isSome_iff_exists.mp hs'
            rcases hcf hc' with ⟨_, e⟩ | ⟨e, _⟩
            · rw [hc] at e; cases e; exact hc'
            · have e2 := dist _ _ e
              rw [dist _ _ hm] at e2; cases e2
      · have hs : Rd s.heap f.O av v := hs
        refine hs.move fun b o e1 e2 e3 => ⟨old _ _ (k.heap b o e1 (fun h => h) e3), ?_⟩
        have hlt0 : @LT.lt Nat _ b s.heap.objs.size := Heap.lt_size e3
        have hlt : @LT.lt Nat _ b N := hN ▸ Heap.lt_size (k.heap b o e1 (fun h => h) e3)
        rintro (q | q | q)
        · exact e2 q
        · exact Nat.lt_irrefl _ (Nat.lt_of_lt_of_le hlt0 (hW b q).1)
        · rw [hN] at q; exact Nat.lt_irrefl _ (Nat.lt_of_lt_of_le hlt q.1)
    · obtain ⟨_, _, e, _⟩ := capA_lookup hx; cases e
end
noncomputable def canStore (cx : Cx) (n : Str) : Bool := kOf cx n == some .local || cx.own.contains n
inductive AsgN (cx : Cx) : Ro → List Expr → List AV → Ro → Prop
  | nil {ρ} : AsgN cx ρ [] [] ρ
  | cons {x p es v vs ρ ρ1 ρ2} : canStore cx x = true → put ρ x (.fz v) = ρ1 → AsgN cx ρ1 es vs ρ2 → AsgN cx ρ (.Name x p :: es) (v :: vs) ρ2
inductive AsgT (cx : Cx) : Ro → Expr → AV → Ro → Prop
  | name {x p v ρ ρ1} : canStore cx x = true → put ρ x (.fz v) = ρ1 → AsgT cx ρ (.Name x p) v ρ1
  | tup {es k p xs ρ ρ1} : AsgN cx ρ es xs ρ1 → AsgT cx ρ (.Tuple es k p) (.tup xs) ρ1
theorem asgNames_nil {cx ρ} : AsgN cx ρ [] [] ρ := .nil
theorem asgNames_cons {cx ρ x p es v vs ρ1 ρ2} (hs : canStore cx x = true) (hp : put ρ x (.fz v) = ρ1) (h : AsgN cx ρ1 es vs ρ2) : AsgN cx ρ (.Name x p :: es) (v :: vs) ρ2 := .cons hs hp h
theorem asgT_name {cx ρ x p v ρ1} (hs : canStore cx x = true) (hp : put ρ x (.fz v) = ρ1) : AsgT cx ρ (.Name x p) v ρ1 := .name hs hp
theorem asgT_tup {cx ρ es k p xs ρ1} (h : AsgN cx ρ es xs ρ1) : AsgT cx ρ (.Tuple es k p) (.tup xs) ρ1 := .tup h
noncomputable def tgtNames : Expr → List Str
  | .Name n _ => [n]
  | .Tuple es _ _ => es.filterMap fun | .Name n _ => some n | _ => none
  | _ => []
noncomputable def freshT (ρ : Ro) (tgt : Expr) : Bool := (tgtNames tgt).all fun n => (ρ.lookup n).isNone
section
variable {l : L} {cx : Cx} {f : Fm} {ρ : Ro} {s s' s₀ : Shared}
theorem Kp.muN (a : Act l cx f ρ s) (k : Kp f.Mu (fun _ => False) s s') : Base l.h s'.heap := a.base.kp k fun b hb => .inl (a.en.muN b hb).1
theorem can_kind (a : Act l cx f ρ s) {n : Str} (h : canStore cx n = true) : f.env.kindOf n = some .local ∨ n ∈ cx.own :=
  (Bool.or_eq_true_iff.mp h).elim (fun h => .inl ((kind_of a n).trans (eq_of_beq h))) fun h => .inr (List.contains_iff_mem.mp h)
/-- what a store leaves -/
structure Bound (l : L) (cx : Cx) (f : Fm) (ρ : Ro) (n : Str) (v : Value) (s s' : Shared) : Prop where
  k : Kp f.Mu (fun _ => False) s s'
  gens : s'.gens = s.gens
  size : s.heap.objs.size = s'.heap.objs.size
  lists : ∀ b vs n, s.heap.get? b = some { cls := .type "list", data := .seq vs n } → s'.heap.get? b = some { cls := .type "list", data := .seq vs n }
  holds : Holds f.env s'.heap n v
  other : ∀ y u, y ≠ n → Holds f.env s.heap y u → Holds f.env s'.heap y u
  act : Act l cx f ρ s'
theorem bind_ok {n : Str} {sl : Sl} {v : Value} {Q : Unit → Shared → Prop} (a : Act l cx f ρ s) (hn : canStore cx n = true) (hsl : SlotOk s.heap f.O f.Mu sl v)
    (hap : ∀ xs, sl = .own xs → ∀ y ys, y ≠ n → ρ.lookup y = some (.own ys) → ¬ Holds f.env s.heap y v) (h : ∀ s', Bound l cx f (put ρ n sl) n v s s' → Q () s') : wpAny l.M f.A (storeName f.env n v) Q NoE s :=
  store_ok a.en a.fr (can_kind a hn) hsl hap fun s' k hg hz e r => h s' ⟨k, hg, hz.1, hz.2.1, hz.2.2.1, hz.2.2.2, a.sc, a.hh, a.dep, a.uni, k.tk a.tk, Kp.muN a k, e, r⟩
/-- a frame in a state, the frame's own written alone -/
noncomputable def Stored (l : L) (cx : Cx) (f : Fm) (ρ' : Ro) (s s' : Shared) : Prop := Kp f.Mu (fun _ => False) s s' ∧ Act l cx f ρ' s'
theorem bindF_ok {n : Str} {x : AV} {v : Value} {Q : Unit → Shared → Prop} (a : Act l cx f ρ s) (hn : canStore cx n = true) (r : Rd s.heap f.O x v) (h : ∀ s', Stored l cx f (put ρ n (.fz x)) s s' → Q () s') : wpAny l.M f.A (storeName f.env n v) Q NoE s :=
  bind_ok (sl := .fz x) a hn r (fun _ h => nomatch h) fun s' b => h s' ⟨b.k, b.act⟩
theorem K0.toW {W G} (k : K0 s s') : Kp W G s s' := k.mono (fun _ h => h.elim) fun _ h => h.elim
theorem Stored.pre {ρ'} (k : K0 s₀ s) (h : Stored l cx f ρ' s s') : Stored l cx f ρ' s₀ s' := ⟨k.toW.trans h.1, h.2⟩
theorem asgN_ok {es : List Expr} {xs : List AV} {vs : List Value} {ρ' : Ro} (he : AsgN cx ρ es xs ρ') (a : Act l cx f ρ s) (r : RdL s.heap f.O xs vs) :
    wpAny l.M f.A (assignInOrder ((assignEach es f.env).map (·.2)) vs) (fun _ s' => Stored l cx f ρ' s s') NoE s := by
  induction he generalizing s vs with
  | nil => exact wpAny_pure ⟨.refl, a⟩
  | @cons x p es v _ ρ ρ1 _ hn hp _ ih =>
    subst hp
    refine r.consE fun v vs' r1 r2 => ?_
    show wpAny l.M f.A (do holding vs' (assign (.Name x p) f.env v); assignInOrder ((assignEach es f.env).map (·.2)) vs') _ NoE s
    exact wpAny_bind (wpAny_holding (wpAny_assign_Name (bindF_ok a hn r1 fun s' q =>
      wpAny_mono (ih q.2 (r2.kp q.1 fun b hb => .inl (a.en.muO b hb))) (fun _ s2 q' => ⟨q.1.trans q'.1, q'.2⟩) fun _ _ q => q)))
theorem asgN_len {env : Env} {es : List Expr} {xs : List AV} {ρ' : Ro} (he : AsgN cx ρ es xs ρ') : (assignEach es env).length = xs.length ∧ (assignEach es env).findIdx? (·.1) = none := by
  induction he with
  | nil => exact ⟨rfl, rfl⟩
  | @cons x p es _ _ _ _ _ _ _ _ ih =>
    show ((false, assign (.Name x p) env) :: assignEach es env).length = _ ∧ ((false, assign (.Name x p) env) :: assignEach es env).findIdx? (·.1) = none
    rw [List.findIdx?_cons, ih.2]
    exact ⟨congrArg (· + 1) ih.1, rfl⟩
theorem asgN_keeps {es : List Expr} {xs : List AV} {ρ' : Ro} (he : AsgN cx ρ es xs ρ') : ∀ n sl, n ∉ (es.filterMap fun e => match e with | .Name n _ => some n | _ => none) → ρ.lookup n = some sl → ρ'.lookup n = some sl := by
  induction he with
  | nil => exact fun _ _ _ h => h
  | cons hn hp _ ih =>
    intro n sl hm h
    rw [List.filterMap_cons] at hm
    have hm := not_or.mp (fun q => hm (List.mem_cons.mpr q))
    refine ih n sl hm.2 ?_
    rw [← hp, lookup_put, if_neg hm.1]; exact h
theorem asgT_keeps {tgt : Expr} {x : AV} {ρ' : Ro} (he : AsgT cx ρ tgt x ρ') (hf : freshT ρ tgt = true) : ∀ n sl, ρ.lookup n = some sl → ρ'.lookup n = some sl := by
  intro n sl h
  have hno : n ∉ tgtNames tgt := fun hm => by
    have := List.all_eq_true.mp hf n hm
    rw [h] at this; cases this
  cases he with
  | name hn hp => rw [← hp, lookup_put, if_neg fun q => hno (List.mem_singleton.mpr q)]; exact h
  | tup h' => exact asgN_keeps h' n sl hno h
theorem K0.ext {h' : Heap} (hx : Heap.ExtBut s.heap.objs.size s.heap h') (hz : s.heap.objs.size ≤ h'.objs.size) : K0 s { s with heap := h' } :=
  .heap1 (fun b o e => hx b o (Nat.ne_of_lt (Heap.lt_size e)) e) hz
theorem asg_ok {tgt : Expr} {x : AV} {v : Value} {ρ' : Ro} (he : AsgT cx ρ tgt x ρ') (a : Act l cx f ρ s) (r : Rd s.heap f.O x v) : wpAny l.M f.A (assign tgt f.env v) (fun _ s' => Stored l cx f ρ' s s') NoE s := by
  cases he with
  | name hn hp =>
    subst hp
    exact wpAny_assign_Name (bindF_ok a hn r fun s' q => q)
  | @tup es k p xs _ _ he =>
    refine r.tupE fun t vs n g => ?_
    have hl := asgN_len (env := f.env) he
    rw [arm_assign_Tuple]
    refine wpAny_bind (wpAny_standAt ?_)
    unfold unpack
    rw [hl.1, hl.2, ← g.len]
    refine wpAny_bind (wpAny_holding (with_size (wpAny_unpackItems_tuple a.hh g.isT fun h' hx hz => ?_)))
    exact wpAny_mono (asgN_ok he (a.k0 (.ext hx hz)) (g.2.2.2.2.k0 (.ext hx hz))) (fun _ s2 q => q.pre (.ext hx hz)) fun _ _ q => q
end
structure TopIs (h : Heap) : Prop where
  lim : h.NoLimit
  range : GlobIs h "range" (.type "range")
  zip : GlobIs h "zip" (.type "zip")
  list : GlobIs h "list" (.type "list")
  enum : GlobIs h "enumerate" (.type "enumerate")
section
variable {l : L} {cx : Cx} {f : Fm} {ρ : Ro} {s s' s₀ : Shared}
theorem noFold {e : Expr} {env : Env} (h : isSet e = false) : ∀ x, foldedSetIterable e env x = pure x := by
  intro x
  cases e <;> first | rfl | exact Bool.noConfusion h
theorem Iters.trans {A : Around} {O Mu : Addr → Prop} {tgt : Expr} {xs : List AV} {it : Value} (k : K0 s₀ s) (h : Iters l A tgt xs O Mu s it s') : Iters l A tgt xs O Mu s₀ it s' :=
  let ⟨k2, W, Gs, St, h1, h2, h3⟩ := h; ⟨k.trans k2, W, Gs, St, fun b hb => Nat.le_trans k.size (h1 b hb), fun g hg => Nat.le_trans k.gsize (h2 g hg), h3⟩
/-- an iterable comes to a row of values -/
noncomputable def ItV (l : L) (A : Around) (O : Addr → Prop) (tgt : Expr) (xs : List AV) (s : Shared) (x : Value) (s₁ : Shared) : Prop := wpAny l.M A (pyIter x) (Iters l A tgt xs O O s) NoE s₁
structure IT (l : L) (cx : Cx) (ρ : Ro) (tgt e : Expr) (xs : List AV) : Prop where
  ns : isSet e = false
  ev : ∀ f s, Act l cx f ρ s → wpAny l.M f.A (eval e f.env) (ItV l f.A f.O tgt xs s) NoE s
theorem ItV.of {A O tgt xs x s₁} (k : K0 s₀ s) (h : wpAny l.M A (pyIter x) (Iters l A tgt xs O O s) NoE s₁) : ItV l A O tgt xs s₀ x s₁ := wpAny_mono h (fun _ _ => Iters.trans k) fun _ _ q => q
theorem itT_list {es k p e xs} (hs : isSet e = false) (h : EV l cx ρ e (.list xs)) : IT l cx ρ (.Tuple es k p) e xs := ⟨hs, fun f s a => h.go a .refl fun v s' k _ r => .of k (iter_list (.tup _ _ _) a.hh r (fun _ h => h) (a.gk k).bd (a.base.k0 k).tab)⟩
inductive SeqA : AV → List AV → Prop
  | list {xs} : SeqA (.list xs) xs
  | tup {xs} : SeqA (.tup xs) xs
theorem seq_list {xs} : SeqA (.list xs) xs := .list
theorem seq_tup {xs} : SeqA (.tup xs) xs := .tup
theorem itN_val {x p e v xs} (hs : isSet e = false) (h : EV l cx ρ e v) (hv : SeqA v xs) : IT l cx ρ (.Name x p) e xs := ⟨hs, fun f s a => h.go a .refl fun v s' k _ r => by
  cases hv with
  | list => exact .of k (iter_list (.name _ _) a.hh r (fun _ h => h) (a.gk k).bd (a.base.k0 k).tab)
  | tup => exact .of k (iter_tup a.hh r (fun _ h => h) (a.gk k).bd (a.base.k0 k).tab)⟩
/-- a range's numbers -/
structure RgOk (a b : Int) (xs : List AV) : Prop where
  ok : rangeA a b = some xs
theorem Callee.type {h T} : Callee h (.type T) := .inr (.inl ⟨_, rfl⟩)
theorem it_range1 {x p g q a pos N xs} (T : TopIs l.h) (hg : (g == ("range" : Str) && kGlob cx g && !isStar a) = true) (h : EV l cx ρ a (.int N)) (hr : RgOk 0 N xs) : IT l cx ρ (.Name x p) (.Call (.Name g q) [a] [] pos) xs := ⟨rfl, fun f s ac => by
  simp only [Bool.and_eq_true, Bool.not_eq_true'] at hg
  have e := eq_of_beq hg.1.1
  subst e
  exact wpAny_Call_NameR (glob_ok ac hg.1.2 T.range (args_ok rfl (.cons hg.2 h .nil) ac .refl .type fun vs s' k _ r => r.oneE fun v r => r.intE fun t =>
    wpAny_mono (range1_ok ac.hh hr.ok (fun _ h => h) (ac.gk k).bd (ac.base.k0 k).tab) (fun _ _ => ItV.of k) fun _ _ q => q))⟩
theorem it_range2 {x p g q a b pos M N xs} (T : TopIs l.h) (hg : (g == ("range" : Str) && kGlob cx g && !isStar a && !isStar b) = true) (h1 : EV l cx ρ a (.int M)) (h : EV l cx ρ b (.int N)) (hr : RgOk M N xs) : IT l cx ρ (.Name x p) (.Call (.Name g q) [a, b] [] pos) xs := ⟨rfl, fun f s ac => by
  simp only [Bool.and_eq_true, Bool.not_eq_true'] at hg
  have e := eq_of_beq hg.1.1.1
  subst e
  exact wpAny_Call_NameR (glob_ok ac hg.1.1.2 T.range (args_ok rfl (.cons hg.1.2 h1 (.cons hg.2 h .nil)) ac .refl .type fun vs s' k _ r => r.twoE fun v u r r' => r.intE fun t => r'.intE fun t' =>
    wpAny_mono (range2_ok ac.hh hr.ok (fun _ h => h) (ac.gk k).bd (ac.base.k0 k).tab) (fun _ _ => ItV.of k) fun _ _ q => q))⟩
theorem it_zip {es k p g q a b pos xs ys} (T : TopIs l.h) (hg : (g == ("zip" : Str) && kGlob cx g && !isStar a && !isStar b) = true) (h1 : EV l cx ρ a (.list xs)) (h : EV l cx ρ b (.list ys)) : IT l cx ρ (.Tuple es k p) (.Call (.Name g q) [a, b] [] pos) (zipA xs ys) := ⟨rfl, fun f s ac => by
  simp only [Bool.and_eq_true, Bool.not_eq_true'] at hg
  have e := eq_of_beq hg.1.1.1
  subst e
  exact wpAny_Call_NameR (glob_ok ac hg.1.1.2 T.zip (args_ok rfl (.cons hg.1.2 h1 (.cons hg.2 h .nil)) ac .refl .type fun vs s' k _ r => r.twoE fun v u r r' =>
    wpAny_mono (zip_ok ac.hh r r' (fun _ h => h) (ac.gk k).bd (ac.base.k0 k).tab) (fun _ _ => ItV.of k) fun _ _ q => q))⟩
theorem it_zipE {es k p g q a b pos xs ys zs} (T : TopIs l.h) (hg : (g == ("zip" : Str) && kGlob cx g && !isStar a && !isStar b) = true) (h1 : EV l cx ρ a (.list xs)) (h : EV l cx ρ b (.list ys)) (hz : zipA xs ys = zs) : IT l cx ρ (.Tuple es k p) (.Call (.Name g q) [a, b] [] pos) zs := hz ▸ it_zip T hg h1 h
end
/-- an address that the frame hides, and that is no part of its names -/
structure Off (l : L) (f : Fm) (b : Addr) : Prop where
  o : f.O b
  mu : ¬ f.Mu b
  loc : b ≠ f.env.locals
  cell : ∀ n, f.env.cells.lookup n ≠ some b
  low : l.h.objs.size ≤ b
section
variable {l : L} {cx : Cx} {f : Fm} {ρ ρ' : Ro} {s s' s₀ : Shared}
theorem Act.kpX {X : Addr → Prop} {Gs : Nat → Prop} (a : Act l cx f ρ s) (k : Kp X Gs s s') (hX : ∀ b, X b → Off l f b) : Act l cx f ρ s' := by
  have hB : Base l.h s'.heap := a.base.kp k fun b hb => .inl (hX b hb).low
  have hkeep : ∀ b o, s.heap.get? b = some o → (b = f.env.locals ∨ (∃ n, f.env.cells.lookup n = some b)) → s'.heap.get? b = some o := fun b o e hb =>
    k.heap b o (Mem_ne_TA a.en hb) (fun q => hb.elim (fun z => (hX b q).loc z) fun z => z.elim fun n z => (hX b q).cell n z) e
  have hH : ∀ {x v}, Holds f.env s.heap x v → Holds f.env s'.heap x v := fun h => h.mono hkeep
  have hO : ∀ b, X b → f.O b ∨ s.heap.get? b = none := fun b hb => .inl (hX b hb).o
  refine ⟨a.sc, a.hh, a.dep, a.uni, k.tk a.tk, hB, { a.en with
    ns := a.en.ns.elim fun m hn => ⟨m, Heap.Ns.get hn fun o e => hkeep _ o e (.inl rfl)⟩
    cells := fun n c hc => let ⟨e1, e2, e3, v, o, ho, hd⟩ := a.en.cells n c hc; ⟨e1, e2, e3, v, o, hkeep _ o ho (.inr ⟨n, hc⟩), hd⟩
    bound := fun b hb => Nat.lt_of_lt_of_le (a.en.bound b hb) k.size }, fun x sl hx => (a.fr.at_ x sl hx).elim fun v z => ⟨v, hH z.1, ?_⟩, fun x y xs ys v hne hx hy hvx hvy => ?_⟩
  · cases sl with
    | fz y => exact Rd.kp k hO z.2
    | own ys =>
      obtain ⟨b, vs, n, q1, q2, q3, q4, q5⟩ := z.2
      exact ⟨b, vs, n, q1, q2, k.heap b _ (a.en.muN b q2).2 (fun q => (hX b q).mu q2) q3, q4, q5.kp k hO⟩
  · have back : ∀ {x sl v}, ρ.lookup x = some sl → Holds f.env s'.heap x v → Holds f.env s.heap x v := fun hx hv => (a.fr.at_ _ _ hx).elim fun u z => Holds.uniq (hH z.1) hv ▸ z.1
    exact a.fr.apart x y xs ys _ hne hx hy (back hx hvx) (back hy hvy)
theorem Act.weak (a : Act l cx f ρ' s) (h : ∀ n sl, ρ.lookup n = some sl → ρ'.lookup n = some sl) : Act l cx f ρ s :=
  { a with fr := ⟨fun x sl hx => a.fr.at_ x sl (h x sl hx), fun x y xs ys v hne hx hy => a.fr.apart x y xs ys v hne (h x _ hx) (h y _ hy)⟩ }
/-- a comprehension under way: the frame, and what it has gathered -/
structure CSt (l : L) (cx : Cx) (f : Fm) (ρ : Ro) (D : Addr) (outs : List AV) (s : Shared) : Prop where
  act : Act l cx f ρ s
  acc : ∃ ys, s.heap.PlainList D ys ∧ RdL s.heap f.O outs ys.toList
  oD : Off l f D
  ta : D ≠ TA
/-- the frame's own and the list that is gathered -/
noncomputable def KD (f : Fm) (D : Addr) (s s' : Shared) : Prop := Kp (fun b => f.Mu b ∨ b = D) (fun _ => False) s s'
variable {D : Addr} {outs : List AV}
theorem KD.mu (k : Kp f.Mu (fun _ => False) s s') : KD f D s s' := k.mono (fun _ h => .inl (.inl h)) fun _ h => h.elim
theorem KD.k0 (k : K0 s s') : KD f D s s' := k.toW
theorem KD.d (k : Kp (fun b => b = D) (fun _ => False) s s') : KD f D s s' := k.mono (fun _ h => .inl (.inr h)) fun _ h => h.elim
theorem KD.trans {s''} (a : KD f D s s') (b : KD f D s' s'') : KD f D s s'' := Kp.trans a b
theorem CSt.kp {X : Addr → Prop} {Gs : Nat → Prop} (c : CSt l cx f ρ D outs s) (k : Kp X Gs s s') (hX : ∀ b, X b → f.O b ∧ b ≠ D) (a' : Act l cx f ρ' s') : CSt l cx f ρ' D outs s' :=
  ⟨a', let ⟨ys, ⟨n, h1⟩, h2⟩ := c.acc; ⟨ys, ⟨n, k.heap _ _ c.ta (fun q => (hX _ q).2 rfl) h1⟩, h2.kp k fun b hb => .inl (hX b hb).1⟩, c.oD, c.ta⟩
theorem CSt.k0 (c : CSt l cx f ρ D outs s) (k : K0 s s') : CSt l cx f ρ D outs s' := c.kp k (fun _ h => h.elim) (c.act.k0 k)
theorem Kp.one {h' : Heap} {D : Addr} (hs : Heap.SameBut D s.heap h') (ta : D ≠ TA) (nc : NC s.heap D) : Kp (fun b => b = D) (fun _ => False) s { s with heap := h' } :=
  ⟨fun b o _ hb e => hs.extBut b o hb e, Nat.le_of_eq hs.1.symm, fun ⟨vs, e⟩ => ⟨vs, hs.extBut _ _ (Ne.symm ta) e⟩, Nat.le_refl _, fun _ _ _ e => e, fun e => e, rfl, fun e => e, CodesOk.but hs.extBut ta nc⟩
theorem append_ok {x : AV} {v : Value} {Q : Value → Shared → Prop} (c : CSt l cx f ρ D outs s) (r : Rd s.heap f.O x v) (hz : outs.length ≤ 1000000) (h : ∀ u s', CSt l cx f ρ D (outs ++ [x]) s' → KD f D s s' → Q u s') :
    wpAny l.M f.A (call (.builtin "list.append") [.ref D, v]) Q NoE s := by
  obtain ⟨ys, h1, h2⟩ := c.acc
  have hl := h2.length
  rw [Array.length_toList] at hl
  refine wpAny_list_append_plain h1 (fun h' hp hs => ?_) (by rw [hl, sizeLine_eq]; omega)
  have k := Kp.one hs c.ta (.seq h1.choose_spec rfl)
  have hO : ∀ b, b = D → f.O b ∨ s.heap.get? b = none := fun b hb => .inl (hb ▸ c.oD.o)
  refine h _ _ ⟨c.act.kpX k fun b hb => hb ▸ c.oD, ⟨ys.push v, hp, ?_⟩, c.oD, c.ta⟩ (.d k)
  rw [Array.toList_push]
  exact (h2.kp k hO).append (.single (r.kp k hO))
noncomputable def forTests (ifs : List Expr) (env : Env) : Sem Bool := forIn ifs true fun c r => if r = true then do let ok ← isTrue c env (eval c env); pure (ForInStep.yield ok) else pure (ForInStep.yield r)
theorem forTests_false : ∀ (ifs : List Expr) (env : Env), (forIn (m := Sem) ifs false fun c r => if r = true then do let ok ← isTrue c env (eval c env); pure (ForInStep.yield ok) else pure (ForInStep.yield r)) = pure false
  | [], _ => rfl
  | c :: cs, env => by
    rw [List.forIn_cons]
    exact forTests_false cs env
inductive TVs (l : L) (cx : Cx) (ρ : Ro) : List Expr → Bool → Prop
  | nil : TVs l cx ρ [] true
  | yes {c cs b} : TV l cx ρ c true → TVs l cx ρ cs b → TVs l cx ρ (c :: cs) b
  | no {c cs} : TV l cx ρ c false → TVs l cx ρ (c :: cs) false
theorem TVs.go {ifs b} {Q : Bool → Shared → Prop} (h : TVs l cx ρ ifs b) (a : Act l cx f ρ s₀) (k : K0 s₀ s) (n : ∀ s', K0 s₀ s' → K0 s s' → Q b s') : wpAny l.M f.A (forTests ifs f.env) Q NoE s := by
  induction h generalizing s with
  | nil => exact wpAny_pure (n s k .refl)
  | yes h _ ih =>
    unfold forTests
    rw [List.forIn_cons]
    exact wpAny_bind (wpAny_bind (h.go a k fun s' k1 k' => wpAny_pure (ih k1 fun s'' k2 k'' => n s'' k2 (k'.trans k''))))
  | no h =>
    unfold forTests
    rw [List.forIn_cons]
    refine wpAny_bind (wpAny_bind (h.go a k fun s' k1 k' => wpAny_pure ?_))
    dsimp only
    rw [forTests_false]
    exact wpAny_pure (n s' k1 k')
/-- one value's turn in a comprehension of one clause -/
inductive T1 (l : L) (cx : Cx) (ρ : Ro) (tgt : Expr) (ifs : List Expr) (elt : Expr) : AV → List AV → Prop
  | yes {x ρ1 r} : freshT ρ tgt = true → AsgT cx ρ tgt x ρ1 → TVs l cx ρ1 ifs true → EV l cx ρ1 elt r → T1 l cx ρ tgt ifs elt x [r]
  | no {x ρ1} : freshT ρ tgt = true → AsgT cx ρ tgt x ρ1 → TVs l cx ρ1 ifs false → T1 l cx ρ tgt ifs elt x []
inductive Cat (F : AV → List AV → Prop) : List AV → List AV → Prop
  | nil : Cat F [] []
  | cons {x xs a b} : F x a → Cat F xs b → Cat F (x :: xs) (a ++ b)
theorem CSt.set {tgt x v} (he : AsgT cx ρ tgt x ρ') (c : CSt l cx f ρ D outs s) (r : Rd s.heap f.O x v) {Q : Unit → Shared → Prop} (n : ∀ s', CSt l cx f ρ' D outs s' → KD f D s s' → Q () s') : wpAny l.M f.A (assign tgt f.env v) Q NoE s :=
  wpAny_mono (asg_ok he c.act r) (fun _ s1 q => n s1 (c.kp q.1 (fun b hb => ⟨c.act.en.muO b hb, fun z => c.oD.mu (z ▸ hb)⟩) q.2) (.mu q.1)) fun _ _ q => q
theorem CSt.back {tgt x} (he : AsgT cx ρ tgt x ρ') (hf : freshT ρ tgt = true) (c : CSt l cx f ρ' D outs s) : CSt l cx f ρ D outs s := ⟨c.act.weak (asgT_keeps he hf), c.acc, c.oD, c.ta⟩
theorem turn1_ok {tgt elt : Expr} {ifs : List Expr} {x : AV} {v : Value} {out : List AV} {β : Type} {K : Sem β} {Q : β → Shared → Prop}
    (he : T1 l cx ρ tgt ifs elt x out) (c : CSt l cx f ρ D outs s) (r : Rd s.heap f.O x v) (hz : (outs ++ out).length ≤ 1000000) (h : ∀ s', CSt l cx f ρ D (outs ++ out) s' → KD f D s s' → wpAny l.M f.A K Q NoE s') :
    wpAny l.M f.A (assign tgt f.env v >>= fun _ => forTests ifs f.env >>= fun ok => if ok = true then ((eval elt f.env >>= fun y => call (.builtin "list.append") [.ref D, y] >>= fun _ => pure PUnit.unit) >>= fun _ => K) else K) Q NoE s := by
  cases he with
  | yes hf h1 h2 h3 =>
    exact wpAny_bind (c.set h1 r fun s1 c1 k1 => wpAny_bind (h2.go c1.act .refl fun s2 k2 _ => wpAny_bind (wpAny_bind (h3.go c1.act k2 fun u s3 k3 _ r3 =>
      wpAny_bind (append_ok (c1.k0 k3) r3 (Nat.le_trans (by rw [List.length_append]; exact Nat.le_add_right _ _) hz) fun _ s4 c4 k4 => wpAny_pure (h s4 (c4.back h1 hf) (k1.trans (KD.trans (.k0 k3) k4)))))))) 
  | no hf h1 h2 =>
    rw [List.append_nil] at h
    exact wpAny_bind (c.set h1 r fun s1 c1 k1 => wpAny_bind (h2.go c1.act .refl fun s2 k2 _ => h s2 ((c1.k0 k2).back h1 hf) (k1.trans (.k0 k2))))
theorem Cat.drop {F : AV → List AV → Prop} {xs out : List AV} {i : Nat} {x : AV} (h : Cat F (xs.drop i) out) (hx : xs[i]? = some x) : ∃ a b, F x a ∧ Cat F (xs.drop (i + 1)) b ∧ out = a ++ b := by
  have hd : xs.drop i = x :: xs.drop (i + 1) := by
    obtain ⟨hl, e⟩ := List.getElem?_eq_some_iff.mp hx
    rw [← e, List.drop_eq_getElem_cons hl]
  rw [hd] at h
  cases h with
  | cons h1 h2 => exact ⟨_, _, h1, h2, rfl⟩
/-- the state of a comprehension's loop -/
structure LI (l : L) (cx : Cx) (f : Fm) (ρ : Ro) (D : Addr) (W : Addr → Prop) (Gs : Nat → Prop) (St : Nat → Shared → Prop) (F : AV → List AV → Prop) (xs all : List AV) (s₀ s : Shared) (i : Nat) (os rest : List AV) (t : Shared) : Prop where
  cat : Cat F (xs.drop i) rest
  all : os ++ rest = all
  st : St i t
  c : CSt l cx f ρ D os t
  sz : s₀.heap.objs.size ≤ t.heap.objs.size
  k : Kp (fun b => f.Mu b ∨ b = D ∨ W b) Gs s t
/-- a comprehension's loop at a depth -/
theorem loop_ok {elt : Expr} {gens : List Comprehension} {scope : Scope} {pos ip : Pos} {depth : Nat} {tgt : Expr} {it : Value} {rest : Value → Sem Fin} {F : AV → List AV → Prop} {xs : List AV} {Oi W : Addr → Prop} {Gs : Nat → Prop} {St : Nat → Shared → Prop}
    (hturn : compTurn (.ListComp elt gens scope pos) depth it (.ref D) f.env = (standAt ip >>= fun _ => pyNext it >>= fun r => match r with
      | none => pure (.done .next)
      | some v => letOwnedTupleGo tgt it v >>= fun _ => rest v))
    (hI : IsIter l f.A tgt it xs W Gs Oi Oi s₀ St)
    (hO : ∀ b t, f.O b → s₀.heap.objs.size ≤ t.heap.objs.size → Kp (fun b => f.Mu b ∨ b = D ∨ W b) Gs s t → Oi b ∨ W b ∨ (s₀.heap.objs.size ≤ b ∧ b < t.heap.objs.size))
    (hMW : ∀ b, (f.Mu b ∨ b = D) → Oi b ∨ s₀.heap.objs.size ≤ b) (hW : ∀ b, W b → Off l f b ∧ b ≠ D)
    (hstep : ∀ x out v outs (s : Shared) (Q : Fin → Shared → Prop), F x out → CSt l cx f ρ D outs s → Rd s.heap f.O x v → (outs ++ out).length ≤ 1000000 →
      (∀ s', CSt l cx f ρ D (outs ++ out) s' → KD f D s s' → Q (.again (.compLoop (.ListComp elt gens scope pos) depth it (.ref D) f.env)) s') → wpAny l.M f.A (rest v) Q NoE s)
    {out : List AV} (hf : Cat F xs out) (hz : (outs ++ out).length ≤ 1000000) (hs : s₀.heap.objs.size ≤ s.heap.objs.size) (hst : St 0 s) (hc : CSt l cx f ρ D outs s) {R : Result → Shared → Prop}
    (hR : ∀ s', CSt l cx f ρ D (outs ++ out) s' → Kp (fun b => f.Mu b ∨ b = D ∨ W b) Gs s s' → R (.ok .next) s') :
    codeAny l.M f.A (.compLoop (.ListComp elt gens scope pos) depth it (.ref D) f.env) R s := by
  refine codeAny_loop rfl (fun n t => ∃ i os rest, n = xs.length - i ∧ i ≤ xs.length ∧ LI l cx f ρ D W Gs St F xs (outs ++ out) s₀ s i os rest t) (fun n t hIn => ?_) (xs.length - 0) ⟨0, outs, out, rfl, Nat.zero_le _, hf, rfl, hst, hc, hs, .refl⟩
  obtain ⟨i, os, rest', rfl, hi, I⟩ := hIn
  show wpAny _ _ ((compTurn (.ListComp elt gens scope pos) depth it (.ref D) f.env).onRaise (fun x => do noteFrame x f.env; theTreesLotGoes x)) _ _ t
  refine wpAny_noted ?_
  rw [hturn]
  refine wpAny_bind (wpAny_standAt (wpAny_bind ?_))
  have hX : ∀ b, W b → f.O b ∧ b ≠ D := fun b hb => ⟨(hW b hb).1.o, (hW b hb).2⟩
  have hWk : ∀ {a b : Shared}, Kp W Gs a b → Kp (fun b => f.Mu b ∨ b = D ∨ W b) Gs a b := fun k => k.mono (fun _ h => .inl (.inr (.inr h))) fun _ h => .inl h
  by_cases hlt : i < xs.length
  · have hx : xs[i]? = some xs[i] := List.getElem?_eq_getElem hlt
    obtain ⟨a1, b1, hfx, hcat', rfl⟩ := I.cat.drop hx
    refine wpAny_mono (hI.item i _ t hx I.st I.c.act.base I.sz) (fun r t1 hr => ?_) fun _ _ h => h.elim
    obtain ⟨v, rfl, hgo⟩ := hr
    refine wpAny_bind (wpAny_mono hgo (fun _ t2 h2 => ?_) fun _ _ h => h.elim)
    have c2 := I.c.kp h2.2.2 hX (I.c.act.kpX h2.2.2 fun b hb => (hW b hb).1)
    have hlen : (os ++ a1).length ≤ 1000000 := by
      refine Nat.le_trans ?_ (I.all ▸ hz)
      rw [← List.append_assoc, List.length_append (as := os ++ a1)]
      exact Nat.le_add_right _ _
    refine wpAny_mono (hstep _ a1 v os t2 _ hfx c2 (h2.1.up fun b hb => hO b t hb I.sz I.k) hlen fun s' hcs hk => ?_) (fun _ _ h => h) fun _ _ h => h.elim
    refine ⟨rfl, xs.length - (i + 1), Nat.sub_lt_sub_left hlt (Nat.lt_succ_self i), i + 1, os ++ a1, b1, rfl, hlt, hcat', (List.append_assoc ..).trans I.all, hI.stay _ _ _ h2.2.1 (Fut.of hk hMW fun _ h => h.elim), hcs, Nat.le_trans I.sz (Nat.le_trans h2.2.2.size hk.size), I.k.trans ((hWk h2.2.2).trans ?_)⟩
    exact hk.mono (fun _ h => .inl (h.elim .inl fun z => .inr (.inl z))) fun _ h => h.elim
  · have hi' : i = xs.length := Nat.le_antisymm hi (Nat.le_of_not_lt hlt)
    subst hi'
    have hcat := I.cat
    rw [List.drop_length] at hcat
    cases hcat
    have e : os = outs ++ out := (List.append_nil os).symm.trans I.all
    subst e
    refine wpAny_mono (hI.done t I.st I.c.act.base) (fun r t1 hr => ?_) fun _ _ h => h.elim
    obtain ⟨rfl, hk2⟩ := hr
    exact wpAny_pure (hR t1 (I.c.kp hk2 hX (I.c.act.kpX hk2 fun b hb => (hW b hb).1)) (I.k.trans (hWk hk2)))
end
theorem compTurn_a (elt t1 i1 : Expr) (ifs1 : List Expr) (t2 i2 : Expr) (ifs2 : List Expr) (scope : Scope) (pos : Pos) (it acc : Value) (env : Env) :
    compTurn (.ListComp elt [⟨t1, i1, ifs1, 0⟩, ⟨t2, i2, ifs2, 0⟩] scope pos) 0 it acc env = (standAt i1.pos >>= fun _ => pyNext it >>= fun r => match r with
      | none => pure (.done .next)
      | some v => letOwnedTupleGo t1 it v >>= fun _ => assign t1 env v >>= fun _ => forTests ifs1 env >>= fun ok => if ok = true then (do
          let x ← eval i2 env
          standAt i2.pos
          let x ← foldedSetIterable i2 env x
          let _ ← runOwn (.compStart (.ListComp elt [⟨t1, i1, ifs1, 0⟩, ⟨t2, i2, ifs2, 0⟩] scope pos) 1 (← holding [x] (pyIter x)) acc env) env
          again (.compLoop (.ListComp elt [⟨t1, i1, ifs1, 0⟩, ⟨t2, i2, ifs2, 0⟩] scope pos) 0 it acc env))
        else again (.compLoop (.ListComp elt [⟨t1, i1, ifs1, 0⟩, ⟨t2, i2, ifs2, 0⟩] scope pos) 0 it acc env)) := by
  unfold compTurn
  dsimp only
  simp only [List.getElem?_cons_succ, List.getElem?_cons_zero, bne_self_eq_false, Bool.false_eq_true, if_false]
  rfl
section
variable {l : L} {cx : Cx} {f : Fm} {ρ ρ' : Ro} {s s' s₀ : Shared} {D : Addr} {outs : List AV}
theorem Act.inO (a : Act l cx f ρ s) {b : Addr} (hb : s.heap.objs.size ≤ b) : ¬ f.O b := fun q => Nat.lt_irrefl _ (Nat.lt_of_lt_of_le (a.en.bound b q) hb)
theorem Act.low (a : Act l cx f ρ s) : l.h.objs.size ≤ s.heap.objs.size := a.en.ns.elim fun _ hn => Nat.le_of_lt (Nat.lt_of_le_of_lt (a.en.muN _ a.en.muL).1 hn.lt)
theorem get_none {b : Addr} (hb : s.heap.objs.size ≤ b) : s.heap.get? b = none := by
  cases q : s.heap.get? b with
  | none => rfl
  | some o => exact absurd (Heap.lt_size q) (Nat.not_lt.mpr hb)
/-- what was hidden, and what is new -/
theorem mv_new {W O : Addr → Prop} (k : K0 s s') (hW : ∀ b, W b → s.heap.objs.size ≤ b) : ∀ b o, b ≠ TA → ¬ O b → s.heap.get? b = some o → s'.heap.get? b = some o ∧ ¬ (O b ∨ W b) := fun b o e1 e2 e3 =>
  ⟨k.heap b o e1 (fun h => h) e3, fun q => q.elim e2 fun z => Nat.lt_irrefl _ (Nat.lt_of_lt_of_le (Heap.lt_size e3) (hW b z))⟩
/-- a frame after another's turn: what that one owns may turn, and it may own more -/
theorem Act.turn {X N : Addr → Prop} {Gs : Nat → Prop} (a : Act l cx f ρ s) (k : Kp X Gs s s') (hX : ∀ b, X b → Off l f b) (hN : ∀ b, N b → s.heap.objs.size ≤ b ∧ b < s'.heap.objs.size) : Act l cx (f.up (fun b => f.O b ∨ N b) f.Mu) ρ s' := by
  have a' := a.kpX k hX
  have mv : ∀ b o, b ≠ TA → ¬ f.O b → s.heap.get? b = some o → s'.heap.get? b = some o ∧ ¬ (f.O b ∨ N b) := fun b o e1 e2 e3 =>
    ⟨k.heap b o e1 (fun q => e2 (hX b q).o) e3, fun q => q.elim e2 fun z => Nat.lt_irrefl _ (Nat.lt_of_lt_of_le (Heap.lt_size e3) (hN b z).1)⟩
  refine ⟨a'.sc, a'.hh, a'.dep, a'.uni, a'.tk, a'.base, { a'.en with
    cells := fun n c hc => let ⟨x, y⟩ := a'.en.cells n c hc; ⟨.inl x, y⟩
    muO := fun b hb => .inl (a'.en.muO b hb)
    bound := fun b hb => hb.elim (a'.en.bound b) fun q => (hN b q).2 }, fun x sl hx => (a.fr.at_ x sl hx).elim fun v z => ⟨v, z.1.mono fun b o hb hm => k.heap b o (Mem_ne_TA a.en hm) (fun q => hm.elim (hX b q).loc fun ⟨n, e⟩ => (hX b q).cell n e) hb, ?_⟩, a'.fr.apart⟩
  cases sl with
  | fz y => exact Rd.move mv z.2
  | own ys =>
    obtain ⟨b, vs, n, q1, q2, q3, q4, q5⟩ := z.2
    exact ⟨b, vs, n, q1, q2, k.heap b _ (a.en.muN b q2).2 (fun q => (hX b q).mu q2) q3, q4, q5.move mv⟩
/-- more addresses that may not be read: those that are new -/
theorem Act.addO {W : Addr → Prop} (a : Act l cx f ρ s) (k : K0 s s') (hW : ∀ b, W b → s.heap.objs.size ≤ b ∧ b < s'.heap.objs.size) : Act l cx (f.up (fun b => f.O b ∨ W b) f.Mu) ρ s' := a.turn k (fun _ h => h.elim) hW
theorem SlotOk.up {h : Heap} {O O' Mu : Addr → Prop} {sl v} (hO : ∀ b, O b → O' b) (z : SlotOk h O' Mu sl v) : SlotOk h O Mu sl v := by
  cases sl with
  | fz y => exact Rd.up hO z
  | own ys => exact let ⟨b, vs, n, q1, q2, q3, q4, q5⟩ := z; ⟨b, vs, n, q1, q2, q3, q4, q5.up hO⟩
theorem Act.dropO {O' : Addr → Prop} (a0 : Act l cx f ρ s₀) (a : Act l cx (f.up O' f.Mu) ρ' s) (h : ∀ b, f.O b → O' b) : Act l cx f ρ' s :=
  ⟨a.sc, a.hh, a.dep, a.uni, a.tk, a.base, { a.en with
    cells := fun n c hc => ⟨(a0.en.cells n c hc).1, (a.en.cells n c hc).2⟩
    muO := a0.en.muO
    bound := fun b hb => a.en.bound b (h b hb) }, fun x sl hx => (a.fr.at_ x sl hx).elim fun v z => ⟨v, z.1, z.2.up h⟩, a.fr.apart⟩
theorem CSt.addO {W : Addr → Prop} (c : CSt l cx f ρ D outs s) (k : K0 s s') (hW : ∀ b, W b → s.heap.objs.size ≤ b ∧ b < s'.heap.objs.size) : CSt l cx (f.up (fun b => f.O b ∨ W b) f.Mu) ρ D outs s' :=
  ⟨c.act.addO k hW, let ⟨ys, ⟨n, e⟩, r⟩ := c.acc; ⟨ys, ⟨n, k.heap _ _ c.ta (fun h => h) e⟩, r.move (mv_new k fun b h => (hW b h).1)⟩, ⟨.inl c.oD.o, c.oD.mu, c.oD.loc, c.oD.cell, c.oD.low⟩, c.ta⟩
theorem CSt.dropO {W : Addr → Prop} {outs' : List AV} (c0 : CSt l cx f ρ D outs s₀) (c : CSt l cx (f.up (fun b => f.O b ∨ W b) f.Mu) ρ' D outs' s) : CSt l cx f ρ' D outs' s :=
  ⟨c0.act.dropO c.act (fun _ h => .inl h), let ⟨ys, e, r⟩ := c.acc; ⟨ys, e, r.up fun _ h => .inl h⟩, c0.oD, c0.ta⟩
theorem compStart_any {A : Around} {env : Env} {elt : Expr} {gens : List Comprehension} {g : Comprehension} {scope : Scope} {pos : Pos} {depth : Nat} {it acc : Value} {R : Result → Shared → Prop} (hg : gens[depth]? = some g) (ha : g.is_async = 0)
    (h0 : codeAny l.M A (.compLoop (.ListComp elt gens scope pos) depth it acc env) R s) (h : wpAny l.M A (pyIter it) (fun it' s' => it' = it ∧ s' = s) NoE s) :
    codeAny l.M A (.compStart (.ListComp elt gens scope pos) depth it acc env) R s := by
  have h : wpAny l.M A (pyIter it) (fun it' s' => codeAny l.M A (.compLoop (.ListComp elt gens scope pos) depth it' acc env) R s') NoE s := wpAny_mono h (fun it' s' q => by rw [q.1, q.2]; exact h0) fun _ _ q => q
  refine codeAny_of_tree ?_
  show wpAny _ A ((compStart (.ListComp elt gens scope pos) depth it acc env).onRaise (fun x => do noteFrame x env; standAt theWindowsPlace)) _ _ s
  refine wpAny_notedAt ?_
  unfold compStart
  have hc : (clausesOf (.ListComp elt gens scope pos))[depth]? = some g := hg
  rw [hc]
  simp only [Option.elim, ha, bne_self_eq_false, Bool.false_eq_true, if_false]
  show wpAny _ _ (ask >>= _) _ _ s
  refine wpAny_bind (wpAny_askSetting (wpAny_ite ?_))
  split
  · first
      | exact wpAny_bind (wpAny_pure (wpAny_pure (And.intro rfl h0)))
      | exact wpAny_pure (And.intro rfl h0)
  · refine wpAny_bind (wpAny_rule ?_)
    first
      | exact wpAny_bind (wpAny_standAt (wpAny_bind (wpAny_mono h (fun it' s' h' => wpAny_pure (And.intro rfl h')) fun _ _ x => x.elim)))
      | (show wpAny _ _ (standAt _ >>= _) _ _ s; exact wpAny_bind (wpAny_standAt (wpAny_bind (wpAny_mono h (fun it' s' h' => wpAny_pure (And.intro rfl h')) fun _ _ x => x.elim))))
theorem runOwn_ok {A : Around} {env : Env} {c : Code} {Q : Flow → Shared → Prop} (hc : codeAny l.M A c (fun r s' => ∃ f, r = .ok f ∧ Q f s') s) : wpAny l.M A (runOwn c env) Q NoE s :=
  wpAny_runOwn (codeAny_mono hc fun r s' h => by obtain ⟨f, rfl, q⟩ := h; exact q)
/-- one value's turn in a comprehension of two clauses -/
inductive T2 (l : L) (cx : Cx) (ρ : Ro) (tgt : Expr) (ifs : List Expr) (tgt2 iter2 : Expr) (ifs2 : List Expr) (elt : Expr) : AV → List AV → Prop
  | yes {x ρ1 ys zs} : freshT ρ tgt = true → AsgT cx ρ tgt x ρ1 → TVs l cx ρ1 ifs true → IT l cx ρ1 tgt2 iter2 ys → Cat (T1 l cx ρ1 tgt2 ifs2 elt) ys zs → T2 l cx ρ tgt ifs tgt2 iter2 ifs2 elt x zs
theorem turn2_ok {tgt iter tgt2 iter2 elt : Expr} {ifs ifs2 : List Expr} {sc : Scope} {pos : Pos} {x : AV} {v it : Value} {out : List AV} {Q : Fin → Shared → Prop}
    (he : T2 l cx ρ tgt ifs tgt2 iter2 ifs2 elt x out) (c : CSt l cx f ρ D outs s) (r : Rd s.heap f.O x v) (hz : (outs ++ out).length ≤ 1000000) (hlow : ∀ n c, f.env.cells.lookup n = some c → f.O c)
    (h : ∀ s', CSt l cx f ρ D (outs ++ out) s' → KD f D s s' → Q (.again (.compLoop (.ListComp elt [⟨tgt, iter, ifs, 0⟩, ⟨tgt2, iter2, ifs2, 0⟩] sc pos) 0 it (.ref D) f.env)) s') :
    wpAny l.M f.A (assign tgt f.env v >>= fun _ => forTests ifs f.env >>= fun ok => if ok = true then (do
          let x ← eval iter2 f.env
          standAt iter2.pos
          let x ← foldedSetIterable iter2 f.env x
          let _ ← runOwn (.compStart (.ListComp elt [⟨tgt, iter, ifs, 0⟩, ⟨tgt2, iter2, ifs2, 0⟩] sc pos) 1 (← holding [x] (pyIter x)) (.ref D) f.env) f.env
          again (.compLoop (.ListComp elt [⟨tgt, iter, ifs, 0⟩, ⟨tgt2, iter2, ifs2, 0⟩] sc pos) 0 it (.ref D) f.env))
        else again (.compLoop (.ListComp elt [⟨tgt, iter, ifs, 0⟩, ⟨tgt2, iter2, ifs2, 0⟩] sc pos) 0 it (.ref D) f.env)) Q NoE s := by
  cases he with
  | yes hf h1 h2 h3 h4 =>
    refine wpAny_bind (c.set h1 r fun s1 c1 k1 => wpAny_bind (h2.go c1.act .refl fun s2 k2 _ => ?_))
    rw [if_pos rfl]
    have c2 := c1.k0 k2
    refine wpAny_bind (wpAny_mono (h3.ev f s2 c2.act) (fun u s3 q3 => wpAny_bind (wpAny_standAt (wpAny_bind (wpAny_of_eq (noFold h3.ns u) (wpAny_bind (wpAny_holding (wpAny_mono q3 (fun it' s4 q4 => ?_) fun _ _ q => q))))))) fun _ _ q => q)
    obtain ⟨k4, W, Gs, St, hW, hG, hI⟩ := q4
    have c4 := c2.addO k4 fun b hb => ⟨hW b hb, hI.low b hb⟩
    have hnW : ∀ {b}, W b → ¬ f.O b := fun {b} hb => c2.act.inO (hW b hb)
    refine wpAny_bind (runOwn_ok (compStart_any (g := ⟨tgt2, iter2, ifs2, 0⟩) rfl rfl ?_ (hI.self 0 s4 hI.start)))
    refine loop_ok (f := f.up (fun b => f.O b ∨ W b) f.Mu) (ip := iter2.pos) (tgt := tgt2) (rest := fun v => assign tgt2 f.env v >>= fun _ => forTests ifs2 f.env >>= fun ok => if ok = true then ((eval elt f.env >>= fun y => call (.builtin "list.append") [.ref D, y] >>= fun _ => pure PUnit.unit) >>= fun _ => again (.compLoop (.ListComp elt [⟨tgt, iter, ifs, 0⟩, ⟨tgt2, iter2, ifs2, 0⟩] sc pos) 1 it' (.ref D) f.env)) else again (.compLoop (.ListComp elt [⟨tgt, iter, ifs, 0⟩, ⟨tgt2, iter2, ifs2, 0⟩] sc pos) 1 it' (.ref D) f.env))
      rfl hI (fun b t hb _ _ => hb.elim .inl fun q => .inr (.inl q)) (fun b hb => .inl (hb.elim (c2.act.en.muO b) fun q => q ▸ c2.oD.o)) (fun b hb => ⟨⟨.inr hb, fun q => hnW hb (c2.act.en.muO b q), fun q => hnW hb (q ▸ c2.act.en.muO _ c2.act.en.muL), fun n q => hnW hb (hlow n b q), Nat.le_trans c2.act.low (hW b hb)⟩, fun q => hnW hb (q ▸ c2.oD.o)⟩)
      (fun y out' v' outs' t Q' hy hc hrd hzz hQ => turn1_ok hy hc hrd hzz fun s' hcs hk => wpAny_pure (hQ s' hcs hk)) h4 hz (Nat.le_refl _) hI.start c4 fun s' hc hk => ⟨.next, rfl, wpAny_pure (h s' ((CSt.dropO c2 hc).back h1 hf) ?_)⟩
    refine k1.trans (KD.trans (.k0 k2) ?_)
    refine Kp.mono (W := fun b => f.Mu b ∨ b = D ∨ W b) (G := Gs) (k4.toW.trans hk) (fun b hb => ?_) fun g hg => .inr (hG g hg)
    exact hb.elim (fun q => .inl (.inl q)) fun q => q.elim (fun q => .inl (.inr q)) fun q => .inr (get_none (hW b q))
end
/-- a list just made, nobody else's -/
structure FreshL (O : Addr → Prop) (s : Shared) (xs : List AV) (D : Addr) (s' : Shared) : Prop where
  k : K0 s s'
  new : s.heap.objs.size ≤ D
  lt : D < s'.heap.objs.size
  ta : D ≠ TA
  is : ∃ vs n, s'.heap.get? D = some { cls := .type "list", data := .seq vs n } ∧ vs.size ≤ sizeLine ∧ RdL s'.heap (fun b => O b ∨ b = D) xs vs.toList
/-- at a comprehension's end -/
structure CompEnd (O : Addr → Prop) (s : Shared) (xs : List AV) (acc : Value) (C : Addr) (s' : Shared) : Prop where
  new : s.heap.objs.size ≤ C
  ta : C ≠ TA
  ns : ∃ m, s'.heap.Ns C m
  fr : ∃ D, acc = .ref D ∧ D ≠ C ∧ FreshL (fun b => O b ∨ b = C) s xs D s'
section
variable {l : L} {cx : Cx} {f : Fm} {ρ ρ' : Ro} {s s' s₀ : Shared} {D : Addr} {outs : List AV} {O : Addr → Prop}
theorem FreshL.ends {xs : List AV} (q : FreshL O s xs D s') (hO : ∀ b, O b → b < s.heap.objs.size) : Ends O s (.list xs) (.ref D) s' :=
  let ⟨vs, n, h1, h2, h3⟩ := q.is; ⟨q.k, rd_list.mpr ⟨D, vs, n, rfl, fun z => Nat.lt_irrefl _ (Nat.lt_of_lt_of_le (hO D z) q.new), q.ta, h1, h2, h3.up fun _ h => .inl h⟩⟩
/-- what came new may turn -/
theorem K0.new {X : Addr → Prop} {Gs : Nat → Prop} {s'' : Shared} (k : K0 s s') (k' : Kp X Gs s' s'') (hX : ∀ b, X b → s.heap.objs.size ≤ b) (hG : ∀ g, Gs g → s.gens.size ≤ g) : K0 s s'' :=
  Kp.mono (W := X) (G := Gs) (k.toW.trans k') (fun b hb => .inr (get_none (hX b hb))) fun g hg => .inr (hG g hg)
theorem CompEnd.moved {xs : List AV} {acc : Value} {C : Addr} (c : CompEnd O s xs acc C s') : ∃ m, s'.heap.Ns C m ∧ ∀ h', Heap.SameBut C s'.heap h' → ∃ D, acc = .ref D ∧ FreshL O s xs D { s' with heap := h' } := by
  obtain ⟨h1, hta, ⟨m, hm⟩, D, e, hne, q⟩ := c
  refine ⟨m, hm, fun h' hs => ⟨D, e, ?_⟩⟩
  have k' := Kp.one hs hta (.ns hm)
  refine ⟨q.k.new k' (fun b hb => hb ▸ h1) fun _ h => h.elim, q.new, Nat.lt_of_lt_of_le q.lt k'.size, q.ta, ?_⟩
  obtain ⟨vs, n, q1, q2, q3⟩ := q.is
  exact ⟨vs, n, hs.extBut _ _ hne q1, q2, q3.move fun b o e1 e2 e3 => ⟨hs.extBut b o (fun z => e2 (.inl (.inr z))) e3, fun z => e2 (z.elim (fun z => .inl (.inl z)) .inr)⟩⟩
/-- a comprehension's run, from its iterable on -/
noncomputable def CW (l : L) (f : Fm) (elt : Expr) (gens : List Comprehension) (sc : Scope) (pos : Pos) (iter : Expr) (ys : List AV) (s : Shared) : Prop :=
  wpAny l.M f.A (eval iter f.env) (fun x s₁ => wpAny l.M f.A (pyIter x) (fun it s₂ => wpAny l.M f.A (newList []) (fun acc s₃ =>
    wpAny l.M f.A (newFunctionEnv sc f.env.globals (clOf f.env sc.names []) [] f.env.qual none .none (some f.env)) (fun cenv s₄ =>
      codeAny l.M f.A (.compStart (.ListComp elt gens sc pos) 0 it acc { cenv with scope := relabel sc f.env }) (fun r s' => r = .ok .next ∧ CompEnd f.O s ys acc cenv.locals s') s₄) NoE s₃) NoE s₂) NoE s₁) NoE s
/-- a comprehension's answer -/
structure CM (l : L) (cx : Cx) (ρ : Ro) (elt : Expr) (gens : List Comprehension) (sc : Scope) (pos : Pos) (ys : List AV) : Prop where
  ok : (okScope sc && capOk cx sc) = true
  gen : ∃ tgt iter ifs gs, gens = ⟨tgt, iter, ifs, 0⟩ :: gs ∧ isSet iter = false ∧ ∀ f s, Act l cx f ρ s → CW l f elt gens sc pos iter ys s
theorem comp_one {tgt iter elt : Expr} {gens : List Comprehension} {ifs : List Expr} {sc : Scope} {pos : Pos} {xs ys : List AV} {F : AV → List AV → Prop} {rest : Env → Addr → Value → Value → Sem Fin}
    (hg : gens[0]? = some ⟨tgt, iter, ifs, 0⟩)
    (hturn : ∀ cenv D it, compTurn (.ListComp elt gens sc pos) 0 it (.ref D) cenv = (standAt iter.pos >>= fun _ => pyNext it >>= fun r => match r with
      | none => pure (.done .next)
      | some v => letOwnedTupleGo tgt it v >>= fun _ => rest cenv D it v))
    (hstep : ∀ (f : Fm) (D : Addr) (it : Value) x out v outs (t : Shared) (Q : Fin → Shared → Prop), F x out → CSt l (inCx cx sc) f (capA ρ sc.names) D outs t → Rd t.heap f.O x v → (outs ++ out).length ≤ 1000000 → (∀ n c, f.env.cells.lookup n = some c → f.O c) →
      (∀ s', CSt l (inCx cx sc) f (capA ρ sc.names) D (outs ++ out) s' → KD f D t s' → Q (.again (.compLoop (.ListComp elt gens sc pos) 0 it (.ref D) f.env)) s') → wpAny l.M f.A (rest f.env D it v) Q NoE t)
    (hoc : (okScope sc && capOk cx sc) = true) (h1 : IT l cx ρ tgt iter xs) (h2 : Cat F xs ys) (hz : ys.length ≤ 1000000) (a : Act l cx f ρ s) : CW l f elt gens sc pos iter ys s := by
  rw [Bool.and_eq_true] at hoc
  refine wpAny_mono (h1.ev f s a) (fun x s₁ q1 => wpAny_mono q1 (fun it s₂ q2 => ?_) fun _ _ h => h) fun _ _ h => h
  obtain ⟨k2, W, Gs, St, hW, hG, hI⟩ := q2
  have hWb : ∀ b, W b → s.heap.objs.size ≤ b ∧ b < s₂.heap.objs.size := fun b hb => ⟨hW b hb, hI.low b hb⟩
  have ci := comp_act a hoc.1 hoc.2 k2 hWb
  refine wpAny_newList ?_ (by rw [sizeLine_eq]; simp)
  refine newEnv_comp ?_
  have z3 : ({ s₂ with heap := s₂.heap.push { cls := .type "list", data := .seq ([] : List Value).toArray } } : Shared).heap.objs.size = s₂.heap.objs.size + 1 := Heap.size_push ..
  rw [z3]
  dsimp only
  generalize hs4 : ({ s₂ with heap := pushCells ((s₂.heap.push listO).push dictO) sc.names } : Shared) = s₄ at ci
  generalize hcE : ({ scope := relabel sc f.env, locals := s₂.heap.objs.size + 1, globals := f.env.globals, cells := cellsFrom (s₂.heap.objs.size + 1 + 1) sc.names (clOf f.env sc.names []), qual := f.env.qual, func := none, code := f.env.code, frame := f.env.frame, builtins := f.env.builtins } : Env) = cenv at ci
  have hloc : cenv.locals = s₂.heap.objs.size + 1 := by rw [← hcE]
  subst hs4
  generalize hs4 : ({ s₂ with heap := pushCells ((s₂.heap.push listO).push dictO) sc.names } : Shared) = s₄ at ci
  have goal' : codeAny l.M f.A (.compStart (.ListComp elt gens sc pos) 0 it (.ref s₂.heap.objs.size) cenv) (fun r s' => r = .ok .next ∧ CompEnd f.O s ys (.ref s₂.heap.objs.size) (s₂.heap.objs.size + 1) s') s₄ := by
    clear hs4 hcE
    have hNs := k2.size
    have ltD : @LT.lt Nat _ s₂.heap.objs.size s₄.heap.objs.size := ci.acc.elim fun _ e => Heap.lt_size e
    have ltC : @LT.lt Nat _ (s₂.heap.objs.size + 1) s₄.heap.objs.size := hloc ▸ ci.act.en.bound _ (ci.act.en.muO _ ci.act.en.muL)
    have hT := TA_lt (a.k0 k2).base.tab
    have hlow := Nat.le_trans a.low hNs
    have cs : CSt l (inCx cx sc) (inF f.A cenv f.O W s₂ s₄) (capA ρ sc.names) s₂.heap.objs.size [] s₄ :=
      ⟨ci.act, ⟨#[], ci.acc, .nil⟩, ⟨.inr (.inr ⟨Nat.le_refl _, ltD⟩), fun q => Nat.lt_irrefl _ (Nat.lt_of_succ_le q.1), hloc ▸ Nat.ne_of_lt (Nat.lt_succ_self _), fun n q => (ci.far n _ q).elim (fun q => Nat.lt_irrefl _ (Nat.lt_of_lt_of_le q hNs)) fun q => Nat.lt_irrefl _ (Nat.lt_trans (Nat.lt_succ_self _) q), hlow⟩, Nat.ne_of_gt hT⟩
    have hSt4 : St 0 s₄ := hI.stay 0 _ _ hI.start (Fut.of ci.k (fun _ h => h.elim) (fun _ h => h.elim))
    refine compStart_any hg rfl ?_ (hI.self 0 s₄ hSt4)
    refine loop_ok (f := inF f.A cenv f.O W s₂ s₄) (outs := []) (rest := rest cenv s₂.heap.objs.size it) (hturn cenv _ it) hI (fun b t hb _ hk => ?_) (fun b hb => ?_) (fun b hb => ?_) (fun y out v outs t Q hy hc hrd hzz hQ => hstep _ _ it y out v outs t Q hy hc hrd hzz (fun n c h => (ci.act.en.cells n c h).1) hQ) h2 hz ci.k.size hSt4 cs fun s' hcs hk => ⟨rfl, ?_⟩
    · exact hb.elim .inl fun hb => hb.elim (fun q => .inr (.inl q)) fun q => .inr (.inr ⟨q.1, Nat.lt_of_lt_of_le q.2 hk.size⟩)
    · exact .inr (hb.elim (fun q => Nat.le_of_succ_le q.1) fun q => q ▸ Nat.le_refl _)
    · have hb2 := hWb b hb
      exact ⟨⟨.inr (.inl hb), fun q => Nat.lt_irrefl _ (Nat.lt_of_lt_of_le hb2.2 (Nat.le_of_succ_le q.1)), hloc ▸ Nat.ne_of_lt (Nat.lt_succ_of_lt hb2.2), fun n q => (ci.far n _ q).elim (fun q => Nat.lt_irrefl _ (Nat.lt_of_lt_of_le q hb2.1)) fun q => Nat.lt_irrefl _ (Nat.lt_trans (Nat.lt_trans hb2.2 (Nat.lt_succ_self _)) q), Nat.le_trans a.low hb2.1⟩, Nat.ne_of_lt hb2.2⟩
    · have kall : K0 s s' := K0.new (k2.trans ci.k) hk (fun b hb => hb.elim (fun q => Nat.le_trans hNs (Nat.le_of_succ_le q.1)) fun q => q.elim (fun q => q ▸ hNs) (hW b)) hG
      refine ⟨Nat.le_trans hNs (Nat.le_succ _), Nat.ne_of_gt (Nat.lt_succ_of_lt hT), hloc ▸ hcs.act.en.ns, _, rfl, Nat.ne_of_lt (Nat.lt_succ_self _), kall, hNs, Nat.lt_of_lt_of_le ltD hk.size, Nat.ne_of_gt hT, ?_⟩
      obtain ⟨vs, ⟨n, e⟩, r⟩ := hcs.acc
      refine ⟨vs, n, e, ?_, r.up fun b hb => ?_⟩
      · have hl := r.length
        rw [Array.length_toList, List.nil_append] at hl
        rw [hl, sizeLine_eq]; exact Nat.le_trans hz (by decide)
      · exact hb.elim (fun q => q.elim .inl fun q => .inr (.inr ⟨q ▸ Nat.le_succ _, q ▸ ltC⟩)) fun q => .inr (.inr ⟨Nat.le_of_eq q.symm, q ▸ ltD⟩)
  subst hs4 hcE
  exact goal'
theorem cm_one {elt tgt iter ifs sc pos xs ys ρ₁} (hg : (okScope sc && capOk cx sc) = true) (hi : IT l cx ρ tgt iter xs) (hc : capA ρ sc.names = ρ₁) (h : Cat (T1 l (inCx cx sc) ρ₁ tgt ifs elt) xs ys) (hz : ys.length ≤ 1000000) : CM l cx ρ elt [⟨tgt, iter, ifs, 0⟩] sc pos ys :=
  ⟨hg, _, _, _, _, rfl, hi.ns, fun f s a => by
    subst hc
    exact comp_one (rest := fun cenv D it v => assign tgt cenv v >>= fun _ => forTests ifs cenv >>= fun ok => if ok = true then ((eval elt cenv >>= fun y => call (.builtin "list.append") [.ref D, y] >>= fun _ => pure PUnit.unit) >>= fun _ => again (.compLoop _ 0 it (.ref D) cenv)) else again (.compLoop _ 0 it (.ref D) cenv))
      rfl (fun cenv D it => by rw [compTurn_list]; rfl) (fun f D it x out v outs t Q hx hc hrd hzz _ hQ => turn1_ok hx hc hrd hzz fun s' hcs hk => wpAny_pure (hQ s' hcs hk)) hg hi h hz a⟩
theorem cm_two {elt tgt iter ifs tgt2 iter2 ifs2 sc pos xs ys ρ₁} (hg : (okScope sc && capOk cx sc) = true) (hi : IT l cx ρ tgt iter xs) (hc : capA ρ sc.names = ρ₁) (h : Cat (T2 l (inCx cx sc) ρ₁ tgt ifs tgt2 iter2 ifs2 elt) xs ys) (hz : ys.length ≤ 1000000) : CM l cx ρ elt [⟨tgt, iter, ifs, 0⟩, ⟨tgt2, iter2, ifs2, 0⟩] sc pos ys :=
  ⟨hg, _, _, _, _, rfl, hi.ns, fun f s a => by
    subst hc
    exact comp_one (rest := fun cenv D it v => assign tgt cenv v >>= fun _ => forTests ifs cenv >>= fun ok => if ok = true then (do
              let x ← eval iter2 cenv
              standAt iter2.pos
              let x ← foldedSetIterable iter2 cenv x
              let _ ← runOwn (.compStart _ 1 (← holding [x] (pyIter x)) (.ref D) cenv) cenv
              again (.compLoop _ 0 it (.ref D) cenv)) else again (.compLoop _ 0 it (.ref D) cenv))
      rfl (fun cenv D it => compTurn_a _ _ _ _ _ _ _ _ _ _ _ _) (fun f D it x out v outs t Q hx hc hrd hzz hlk hQ => turn2_ok hx hc hrd hzz hlk hQ) hg hi h hz a⟩
theorem CM.side {elt gens sc pos ys} (c : CM l cx ρ elt gens sc pos ys) (a : Act l cx f ρ s) : closureFor sc f.env = pure (clOf f.env sc.names []) ∧ sc.kind = .function ∧ (∀ x ∈ sc.names, x.2 = .local → sc.names.lookup x.1 = some .local) := by
  obtain ⟨hok, hcap⟩ := Bool.and_eq_true_iff.mp c.ok
  have hok := Bool.and_eq_true_iff.mp hok
  refine ⟨closureFor_is fun x hx hf => ?_, eq_of_beq hok.1, fun x hx hl => hl ▸ eq_of_beq (List.all_eq_true.mp hok.2 x hx)⟩
  have := List.all_eq_true.mp hcap x hx
  rw [hf] at this
  simp only [bne_self_eq_false, Bool.false_or, Bool.or_eq_true, beq_iff_eq] at this
  exact a.en.has x.1 (kind_of a x.1 ▸ this)
theorem comp_fresh {elt gens sc pos ys} {Q : Value → Shared → Prop} (c : CM l cx ρ elt gens sc pos ys) (a : Act l cx f ρ s) (n : ∀ D s', FreshL f.O s ys D s' → Q (.ref D) s') : wpAny l.M f.A (eval (.ListComp elt gens sc pos) f.env) Q NoE s := by
  obtain ⟨b1, b2, b3⟩ := c.side a
  obtain ⟨tgt, iter, ifs, gs, rfl, hset, hw⟩ := c.gen
  rw [eval_ListComp]
  refine wpAny_comprehension_free (use := none) rfl (noFold hset) b1 b2 b3 (wpAny_mono (hw f s a) (fun x s₁ q1 => wpAny_mono q1 (fun it s₂ q2 => wpAny_mono q2 (fun acc s₃ q3 => wpAny_mono q3 (fun cenv s₄ q4 => codeAny_mono q4 fun r s' q5 => ?_) fun _ _ h => h) fun _ _ h => h) fun _ _ h => h) fun _ _ h => h)
  obtain ⟨rfl, hend⟩ := q5
  obtain ⟨m, hm, hmv⟩ := hend.moved
  exact ⟨m, hm, fun h' hs => let ⟨D, e, q⟩ := hmv h' hs; e ▸ n D _ q⟩
theorem EE_comp {elt gens sc pos ys} (c : CM l cx ρ elt gens sc pos ys) : EV l cx ρ (.ListComp elt gens sc pos) (.list ys) := .mk fun f s a => comp_fresh c a fun D s' q => q.ends a.en.bound
/-- a comprehension whose list a name takes -/
theorem comp_use {elt gens sc pos ys} {u : Value → Sem Unit} {Q : Shared → Prop} (c : CM l cx ρ elt gens sc pos ys) (a : Act l cx f ρ s)
    (h : ∀ D C s', FreshL (fun b => f.O b ∨ b = C) s ys D s' → s.heap.objs.size ≤ C → C ≠ TA → D ≠ C → (∃ m, s'.heap.Ns C m) →
      wpAny l.M f.A (u (.ref D)) (fun _ s'' => ∃ m, s''.heap.Ns C m ∧ ∀ h', Heap.SameBut C s''.heap h' → Q { s'' with heap := h' }) NoE s') :
    wpAny l.M f.A (evalThenUse (.ListComp elt gens sc pos) f.env u) (fun _ s' => Q s') NoE s := by
  obtain ⟨b1, b2, b3⟩ := c.side a
  obtain ⟨tgt, iter, ifs, gs, rfl, hset, hw⟩ := c.gen
  show wpAny _ _ (do let _ ← comprehension (.ListComp elt (⟨tgt, iter, ifs, 0⟩ :: gs) sc pos) sc f.env _ (newList []) false (eval iter f.env) (some u)) _ _ s
  refine wpAny_bind (wpAny_mono (wpAny_comprehension_free (use := some u) (Q := fun _ s' => Q s') rfl (noFold hset) b1 b2 b3 (wpAny_mono (hw f s a) (fun x s₁ q1 => wpAny_mono q1 (fun it s₂ q2 => wpAny_mono q2 (fun acc s₃ q3 => wpAny_mono q3 (fun cenv s₄ q4 => codeAny_mono q4 fun r s' q5 => ?_) fun _ _ h => h) fun _ _ h => h) fun _ _ h => h) fun _ _ h => h)) (fun _ s' q => wpAny_pure q) fun _ _ h => h)
  obtain ⟨rfl, h1, h2, h3, D, rfl, h4, h5⟩ := q5
  exact h D _ s' h5 h1 h2 h4 h3
end
section
variable {l : L} {cx : Cx} {f : Fm} {ρ ρ' : Ro} {s s' s₀ : Shared}
/-- an own list in the heap -/
noncomputable def OwnAt (f : Fm) (s : Shared) (xs : List AV) (D : Addr) (vs : Array Value) (n : Nat) : Prop := f.Mu D ∧ s.heap.get? D = some { cls := .type "list", data := .seq vs n } ∧ vs.size ≤ sizeLine ∧ RdL s.heap f.O xs vs.toList
/-- an own list's address is no part of the frame's -/
theorem own_apart (a : Act l cx f ρ s) {D : Addr} {vs n} (hg : s.heap.get? D = some { cls := .type "list", data := .seq vs n }) : D ≠ f.env.locals ∧ ∀ m, f.env.cells.lookup m ≠ some D := by
  refine ⟨fun q => ?_, fun m q => ?_⟩
  · obtain ⟨m, o, es, ep, h1, h2, _⟩ := a.en.ns
    rw [← q, hg] at h1; cases h1; cases h2
  · obtain ⟨_, _, _, u, o, h1, h2⟩ := a.en.cells m D q
    rw [hg] at h1; cases h1; cases h2
theorem own_at (a : Act l cx f ρ s) {x : Str} {xs : List AV} (hx : ρ.lookup x = some (.own xs)) {v : Value} (hD : Holds f.env s.heap x v) : ∃ D vs n, v = .ref D ∧ OwnAt f s xs D vs n :=
  (a.fr.at_ x _ hx).elim fun v' z => Holds.uniq z.1 hD ▸ z.2
theorem own_get (a : Act l cx f ρ s) {x : Str} {xs : List AV} (hx : ρ.lookup x = some (.own xs)) : ∃ D vs n, Holds f.env s.heap x (.ref D) ∧ OwnAt f s xs D vs n :=
  (a.fr.at_ x _ hx).elim fun v' z => let ⟨D, vs, n, e, q⟩ := z.2; ⟨D, vs, n, e ▸ z.1, q⟩
/-- an own list written -/
theorem Act.mutate (a : Act l cx f ρ s) {x : Str} {xs ys : List AV} (hx : ρ.lookup x = some (.own xs)) {D : Addr} (hD : Holds f.env s.heap x (.ref D)) {h' : Heap} {tk : Nat} {vs : Array Value} {n : Nat}
    (hs : Heap.SameBut D s.heap h') (hg : h'.get? D = some { cls := .type "list", data := .seq vs n }) (hz : vs.size ≤ sizeLine) (hr : RdL s.heap f.O ys vs.toList) (htk : 0 < s.toks → 0 < tk) : Stored l cx f (put ρ x (.own ys)) s { s with heap := h', toks := tk } := by
  obtain ⟨D', vs0, n0, e0, mD, g0, _, _⟩ := own_at a hx hD
  cases e0
  have hap := own_apart a g0
  have hTA : D ≠ TA := (a.en.muN D mD).2
  have k : Kp f.Mu (fun _ => False) s { s with heap := h', toks := tk } :=
    ⟨fun b o _ hb e => (hs.2 b (fun z => hb (z ▸ mD))).trans e, Nat.le_of_eq hs.1.symm, fun ⟨u, e⟩ => ⟨u, (hs.2 _ (fun z => hTA z.symm)).trans e⟩, Nat.le_refl _, fun _ _ _ e => e, fun e => e, rfl, htk, CodesOk.but (fun b o hb e => (hs.2 b hb).trans e) hTA (.seq g0 rfl)⟩
  have keepF : ∀ b o, s.heap.get? b = some o → (b = f.env.locals ∨ ∃ m, f.env.cells.lookup m = some b) → h'.get? b = some o := fun b o e hb =>
    (hs.2 b (fun z => hb.elim (fun q => hap.1 (z ▸ q)) fun q => q.elim fun m q => hap.2 m (z ▸ q))).trans e
  have hH : ∀ {y v}, Holds f.env s.heap y v → Holds f.env h' y v := fun h => h.mono keepF
  have hO : ∀ b, f.Mu b → f.O b ∨ s.heap.get? b = none := fun b hb => .inl (a.en.muO b hb)
  have back : ∀ {q sl v}, ρ.lookup q = some sl → Holds f.env h' q v → Holds f.env s.heap q v := fun hq hv => (a.fr.at_ _ _ hq).elim fun u z => Holds.uniq (hH z.1) hv ▸ z.1
  refine ⟨k, a.sc, a.hh, a.dep, a.uni, k.tk a.tk, Kp.muN a k, { a.en with
    ns := a.en.ns.elim fun m hn => ⟨m, Heap.Ns.get hn fun o e => keepF _ o e (.inl rfl)⟩
    cells := fun m c hc => let ⟨e1, e2, e3, v, o, ho, hd⟩ := a.en.cells m c hc; ⟨e1, e2, e3, v, o, keepF _ o ho (.inr ⟨m, hc⟩), hd⟩
    bound := fun b hb => hs.1.symm ▸ a.en.bound b hb }, fun y sl hy => ?_, fun y z ys' zs v hne hy hz' hyv hzv => ?_⟩
  · rw [lookup_put] at hy
    by_cases hyx : y = x
    · subst hyx
      rw [if_pos rfl] at hy; cases hy
      exact ⟨_, hH hD, D, vs, n, rfl, mD, hg, hz, hr.kp k hO⟩
    · rw [if_neg hyx] at hy
      obtain ⟨u, hu, hsu⟩ := a.fr.at_ y _ hy
      refine ⟨u, hH hu, ?_⟩
      cases sl with
      | fz a' => exact Rd.kp k hO hsu
      | own zs =>
        obtain ⟨b, ws, m, q1, q2, q3, q4, q5⟩ := hsu
        refine ⟨b, ws, m, q1, q2, (hs.2 b fun z => ?_).trans q3, q4, q5.kp k hO⟩
        subst z; subst q1
        exact a.fr.apart y x zs xs _ hyx hy hx hu hD
  · have own : ∀ {y us}, (put ρ x (.own ys)).lookup y = some (.own us) → ∃ us, ρ.lookup y = some (.own us) := fun {y us} h => by
      rw [lookup_put] at h
      by_cases q : y = x
      · exact ⟨_, q ▸ hx⟩
      · rw [if_neg q] at h; exact ⟨_, h⟩
    obtain ⟨u1, e1⟩ := own hy
    obtain ⟨u2, e2⟩ := own hz'
    exact a.fr.apart y z u1 u2 v hne e1 e2 (back e1 hyv) (back e2 hzv)
/-- what a stretch of a body may change -/
structure StepR (O Mu O' Mu' : Addr → Prop) (s s' : Shared) : Prop where
  k : Kp Mu (fun _ => False) s s'
  mu : ∀ b, Mu' b → Mu b ∨ s.heap.objs.size ≤ b
  o : ∀ b, O' b → O b ∨ s.heap.objs.size ≤ b
  st : ∀ b, O b → ¬ Mu b → O' b
variable {O Mu O' Mu' O'' Mu'' : Addr → Prop}
theorem StepR.of (k : Kp Mu (fun _ => False) s s') : StepR O Mu O Mu s s' := ⟨k, fun _ h => .inl h, fun _ h => .inl h, fun _ h _ => h⟩
theorem StepR.trans {s'' : Shared} (a : StepR O Mu O' Mu' s s') (b : StepR O' Mu' O'' Mu'' s' s'') (hO : ∀ b, O b → b < s.heap.objs.size) : StepR O Mu O'' Mu'' s s'' where
  k := Kp.mono (W := fun b => Mu b ∨ s.heap.objs.size ≤ b) (G := fun _ => False) ((a.k.mono (fun b hb => .inl (.inl hb)) fun _ h => h.elim).trans (b.k.mono (fun b hb => .inl (a.mu b hb)) fun _ h => h.elim)) (fun b hb => hb.elim .inl fun q => .inr (get_none q)) fun _ h => h.elim
  mu := fun x hx => (b.mu x hx).elim (a.mu x) fun h => .inr (Nat.le_trans a.k.size h)
  o := fun x hx => (b.o x hx).elim (a.o x) fun h => .inr (Nat.le_trans a.k.size h)
  st := fun x hx hm => b.st x (a.st x hx hm) fun q => (a.mu x q).elim hm fun h => Nat.lt_irrefl _ (Nat.lt_of_lt_of_le (hO x hx) h)
noncomputable def frz1 (ρ : Ro) (x : Str) : Ro := match ρ.lookup x with
  | some (.own xs) => put ρ x (.fz (.list xs))
  | _ => ρ
noncomputable def frz (ρ : Ro) : List Str → Ro
  | [] => ρ
  | x :: r => frz (frz1 ρ x) r
/-- a frame in a state, after a stretch -/
noncomputable def Went (l : L) (cx : Cx) (f : Fm) (ρ' : Ro) (s s' : Shared) : Prop := ∃ O' Mu', StepR f.O f.Mu O' Mu' s s' ∧ Act l cx (f.up O' Mu') ρ' s'
theorem Went.refl (a : Act l cx f ρ s) : Went l cx f ρ s s := ⟨f.O, f.Mu, .of .refl, a⟩
theorem Went.of (q : Stored l cx f ρ s s') : Went l cx f ρ s s' := ⟨f.O, f.Mu, .of q.1, q.2⟩
theorem Went.then {ρ''} {s''} (a : Act l cx f ρ s) (g : Went l cx f ρ' s s') (h : ∀ f' : Fm, f'.A = f.A → f'.env = f.env → Act l cx f' ρ' s' → Went l cx f' ρ'' s' s'') : Went l cx f ρ'' s s'' := by
  obtain ⟨O', Mu', st, a'⟩ := g
  obtain ⟨O2, Mu2, st2, a2⟩ := h (f.up O' Mu') rfl rfl a'
  exact ⟨O2, Mu2, st.trans st2 a.en.bound, a2⟩
theorem frz1_own (a : Act l cx f ρ s) {x : Str} {xs : List AV} (hx : ρ.lookup x = some (.own xs)) : Went l cx f (put ρ x (.fz (.list xs))) s s := by
  obtain ⟨D, vs, n, hv, mD, g, hz, hr⟩ := own_get a hx
  have hap := own_apart a g
  have hO : ∀ b, (f.O b ∧ b ≠ D) → f.O b := fun b h => h.1
  refine ⟨fun b => f.O b ∧ b ≠ D, fun b => f.Mu b ∧ b ≠ D, ⟨.refl, fun b h => .inl h.1, fun b h => .inl h.1, fun b h hm => ⟨h, fun q => hm (q ▸ mD)⟩⟩, a.sc, a.hh, a.dep, a.uni, a.tk, a.base, { a.en with
    muL := ⟨a.en.muL, Ne.symm hap.1⟩
    cells := fun m c hc => let ⟨e1, e2⟩ := a.en.cells m c hc; ⟨⟨e1, fun q => hap.2 m (q ▸ hc)⟩, e2⟩
    muC := fun m c hm hc => ⟨a.en.muC m c hm hc, fun q => hap.2 m (q ▸ hc)⟩
    muO := fun b h => ⟨a.en.muO b h.1, h.2⟩
    muN := fun b h => a.en.muN b h.1
    bound := fun b h => a.en.bound b h.1 }, fun y sl hy => ?_, fun y z ys zs u hne hy hz' hyu hzu => ?_⟩
  · rw [lookup_put] at hy
    by_cases q : y = x
    · subst q
      rw [if_pos rfl] at hy; cases hy
      exact ⟨_, hv, rd_list.mpr ⟨D, vs, n, rfl, fun q => q.2 rfl, (a.en.muN D mD).2, g, hz, hr.up hO⟩⟩
    · rw [if_neg q] at hy
      obtain ⟨u, hu, hs⟩ := a.fr.at_ y _ hy
      refine ⟨u, hu, ?_⟩
      cases sl with
      | fz a' => exact Rd.up hO hs
      | own zs =>
        obtain ⟨b, ws, m, q1, q2, q3, q4, q5⟩ := hs
        refine ⟨b, ws, m, q1, ⟨q2, fun z => ?_⟩, q3, q4, q5.up hO⟩
        subst z; subst q1
        exact a.fr.apart y x zs xs _ q hy hx hu hv
  · have own : ∀ {y us}, (put ρ x (.fz (.list xs))).lookup y = some (.own us) → ρ.lookup y = some (.own us) := fun {y us} h => by
      rw [lookup_put] at h
      by_cases q : y = x
      · rw [if_pos q] at h; cases h
      · rwa [if_neg q] at h
    exact a.fr.apart y z ys zs u hne (own hy) (own hz') hyu hzu
theorem frz1_ok (a : Act l cx f ρ s) (x : Str) : Went l cx f (frz1 ρ x) s s := by
  unfold frz1
  cases h : ρ.lookup x with
  | none => exact .refl a
  | some sl => cases sl with
    | fz _ => exact .refl a
    | own xs => exact frz1_own a h
theorem frz_ok : ∀ (xs : List Str) {ρ : Ro} {f : Fm}, Act l cx f ρ s → Went l cx f (frz ρ xs) s s
  | [], _, _, a => .refl a
  | x :: r, _, _, a => .then a (frz1_ok a x) fun _ _ _ a' => frz_ok r a'
/-- a list just made joins the frame's own -/
theorem Act.addOwn {D : Addr} {C : Addr → Prop} (a : Act l cx f ρ s) (k : K0 s s') (hC : ∀ b, C b → s.heap.objs.size ≤ b ∧ b < s'.heap.objs.size) (hD : s.heap.objs.size ≤ D ∧ D < s'.heap.objs.size) (hT : D ≠ TA) :
    Act l cx (f.up (fun b => f.O b ∨ (C b ∨ b = D)) (fun b => f.Mu b ∨ b = D)) ρ s' := by
  have a' := a.addO k (W := fun b => C b ∨ b = D) fun b hb => hb.elim (hC b) fun q => q ▸ hD
  exact ⟨a'.sc, a'.hh, a'.dep, a'.uni, a'.tk, a'.base, { a'.en with
    muL := .inl a'.en.muL
    muC := fun m c hm hc => .inl (a'.en.muC m c hm hc)
    muO := fun b hb => hb.elim (a'.en.muO b) fun q => .inr (.inr q)
    muN := fun b hb => hb.elim (a'.en.muN b) fun q => q ▸ ⟨Nat.le_trans a.low hD.1, hT⟩ },
    ⟨fun x sl hx => (a'.fr.at_ x sl hx).elim fun v z => ⟨v, z.1, by
      cases sl with
      | fz y => exact z.2
      | own ys => exact let ⟨b, vs, n, q1, q2, q⟩ := z.2; ⟨b, vs, n, q1, .inl q2, q⟩⟩, a'.fr.apart⟩⟩
/-- no own name holds what was not there -/
theorem new_not_held (a : Act l cx f ρ s) (k : K0 s s') {y : Str} {ys : List AV} (hy : ρ.lookup y = some (.own ys)) {D : Addr} (hD : s.heap.objs.size ≤ D) : ¬ Holds f.env s'.heap y (.ref D) := fun h => by
  obtain ⟨v, hv, _⟩ := a.fr.at_ y _ hy
  have e := Holds.back a.en k hv h
  subst e
  obtain ⟨D', vs, n, e, _, g, _⟩ := own_at a hy hv
  cases e
  exact Nat.lt_irrefl _ (Nat.lt_of_lt_of_le (Heap.lt_size g) hD)
/-- the step that adds a new list -/
theorem StepR.new {C : Addr → Prop} {D : Addr} (k : K0 s s') (hC : ∀ b, C b → s.heap.objs.size ≤ b) (hD : s.heap.objs.size ≤ D) : StepR O Mu (fun b => O b ∨ (C b ∨ b = D)) (fun b => Mu b ∨ b = D) s s' :=
  ⟨k.toW, fun b hb => hb.elim .inl fun q => .inr (q ▸ hD), fun b hb => hb.elim .inl fun q => .inr (q.elim (hC b) fun z => z ▸ hD), fun b hb _ => .inl hb⟩
theorem own_up {D : Addr} {C : Addr → Prop} {b : Addr} (h : (O b ∨ C b) ∨ b = D) : O b ∨ (C b ∨ b = D) := h.elim (fun h => h.elim .inl fun q => .inr (.inl q)) fun q => .inr (.inr q)
/-- a name takes a list just made -/
theorem bindOwn_ok {n : Str} {xs : List AV} {D : Addr} (a : Act l cx f ρ s) (q : FreshL f.O s xs D s') (hn : canStore cx n = true) : wpAny l.M f.A (storeName f.env n (.ref D)) (fun _ s'' => Went l cx f (put ρ n (.own xs)) s s'') NoE s' := by
  have a' := a.addOwn (C := fun _ => False) q.k (fun _ h => h.elim) ⟨q.new, q.lt⟩ q.ta
  obtain ⟨vs, m, g, hz, hr⟩ := q.is
  exact bind_ok (f := f.up (fun b => f.O b ∨ (False ∨ b = D)) fun b => f.Mu b ∨ b = D) (sl := .own xs) a' hn ⟨D, vs, m, rfl, .inr rfl, g, hz, hr.up fun b hb => hb.elim .inl fun q => q.elim (fun q => q.elim) .inr⟩ (fun ys _ y zs _ hy => new_not_held a q.k hy q.new) fun s'' b => ⟨_, _, (StepR.new (C := fun _ => False) q.k (fun _ h => h.elim) q.new).trans (.of b.k) a.en.bound, b.act⟩
/-- a comprehension whose list a name takes at once -/
theorem useOwn_ok {elt gens sc pos np ys n} (c : CM l cx ρ elt gens sc pos ys) (hn : canStore cx n = true) (a : Act l cx f ρ s) : wpAny l.M f.A (evalThenUse (.ListComp elt gens sc pos) f.env (assign (.Name n np) f.env)) (fun _ s' => Went l cx f (put ρ n (.own ys)) s s') NoE s := by
  refine comp_use (Q := fun s' => Went l cx f (put ρ n (.own ys)) s s') c a fun D C s' q hC hCT hDC hns => wpAny_assign_Name ?_
  obtain ⟨m, hns⟩ := hns
  have a' := a.addOwn (D := D) (C := fun b => b = C) q.k (fun b hb => hb ▸ ⟨hC, hns.lt⟩) ⟨q.new, q.lt⟩ q.ta
  obtain ⟨vs, qn, g, hz, hrd⟩ := q.is
  have nMu : ¬ (f.Mu C ∨ C = D) := fun z => z.elim (fun z => a.inO hC (a.en.muO C z)) fun z => hDC z.symm
  refine bind_ok (f := f.up (fun b => f.O b ∨ (b = C ∨ b = D)) fun b => f.Mu b ∨ b = D) (sl := .own ys) a' hn ⟨D, vs, qn, rfl, .inr rfl, g, hz, hrd.up fun b hb => hb.elim (fun z => .inl (.inl z)) fun z => z.elim (fun z => .inl (.inr z)) .inr⟩ (fun ys _ y zs _ hy => new_not_held a q.k hy q.new) fun s'' b => ?_
  have hC' := Heap.Ns.get hns fun o e => b.k.heap C o hCT nMu e
  refine ⟨m, hC', fun h' hs => ?_⟩
  have kC := Kp.one hs hCT (.ns hC')
  have st := StepR.new (O := f.O) (Mu := f.Mu) (C := fun b => b = C) q.k (fun b hb => hb ▸ hC) q.new
  refine ⟨_, _, ⟨?_, st.mu, st.o, st.st⟩, b.act.kpX kC fun b hb => ?_⟩
  rotate_left
  · subst hb
    exact ⟨.inr (.inl rfl), nMu, fun z => a.inO hC (z ▸ a.en.muO _ a.en.muL), fun m z => a.inO hC (a.en.cells m _ z).1, Nat.le_trans a.low hC⟩
  exact Kp.mono (W := fun b => (f.Mu b ∨ b = D) ∨ b = C) (G := fun _ => False) (q.k.toW.trans ((b.k.mono (fun b hb => .inl (.inl hb)) fun _ h => h.elim).trans (kC.mono (fun b hb => .inl (.inr hb)) fun _ h => h.elim)))
    (fun b hb => hb.elim (fun z => z.elim .inl fun z => .inr (get_none (z ▸ q.new))) fun z => .inr (get_none (z ▸ hC))) fun _ h => h.elim
end
noncomputable def isNil (e : Expr) : Bool := match e with
  | .List es _ => es.isEmpty
  | _ => false
theorem isNil_form {e : Expr} (h : isNil e = true) : ∃ p, e = .List [] p := by
  cases e <;> first | exact Bool.noConfusion h | skip
  rename_i es p
  cases es
  · exact ⟨p, rfl⟩
  · exact Bool.noConfusion h
noncomputable def NoAl (a b : Sl × Value) : Prop := ∀ xs ys, a.1 = .own xs → b.1 = .own ys → a.2 ≠ b.2
/-- values ready to be named -/
structure PL (l : L) (cx : Cx) (f : Fm) (ρ : Ro) (s : Shared) (ps : List (Sl × Value)) : Prop where
  ok : ∀ p ∈ ps, SlotOk s.heap f.O f.Mu p.1 p.2
  al : ps.Pairwise NoAl
  off : ∀ p ∈ ps, ∀ xs, p.1 = .own xs → ∀ y ys, ρ.lookup y = some (.own ys) → ¬ Holds f.env s.heap y p.2
section
variable {l : L} {cx : Cx} {f : Fm} {ρ ρ' : Ro} {s s' s₀ : Shared}
theorem PL.nil : PL l cx f ρ s [] := ⟨fun _ h => (List.not_mem_nil h).elim, .nil, fun _ h => (List.not_mem_nil h).elim⟩
theorem PL.fz {a v ps} (r : Rd s.heap f.O a v) (h : PL l cx f ρ s ps) : PL l cx f ρ s ((.fz a, v) :: ps) :=
  ⟨List.forall_mem_cons.mpr ⟨r, h.ok⟩, .cons (fun _ _ _ _ e => nomatch e) h.al, List.forall_mem_cons.mpr ⟨fun _ e => (nomatch e), h.off⟩⟩
theorem PL.k0 {ps} (a : Act l cx f ρ s) (h : PL l cx f ρ s ps) (k : K0 s s') : PL l cx f ρ s' ps :=
  ⟨fun p hp => (h.ok p hp).k0 (fun b hb => (a.en.muN b hb).2) k, h.al, fun p hp xs hxs y ys hy hyq => (a.fr.at_ y _ hy).elim fun u z => h.off p hp xs hxs y ys hy (Holds.back a.en k z.1 hyq ▸ z.1)⟩
theorem PL.rev {ps} (h : PL l cx f ρ s ps) : PL l cx f ρ s ps.reverse :=
  ⟨fun p hp => h.ok p (List.mem_reverse.mp hp), List.pairwise_reverse.mpr (h.al.imp fun h xs ys e1 e2 e3 => h ys xs e2 e1 e3.symm), fun p hp => h.off p (List.mem_reverse.mp hp)⟩
/-- names take slots, one after the other -/
inductive PutR (cx : Cx) : Ro → List Str → List Sl → Ro → Prop
  | nil {ρ : Ro} : PutR cx ρ [] [] ρ
  | cons {ρ : Ro} {x ns sl ss ρ1 ρ2} : canStore cx x = true → put ρ x sl = ρ1 → PutR cx ρ1 ns ss ρ2 → PutR cx ρ (x :: ns) (sl :: ss) ρ2
theorem put_nil : PutR cx ρ [] [] ρ := .nil
theorem put_cons {x ns sl ss ρ1 ρ2} (hs : canStore cx x = true) (hp : put ρ x sl = ρ1) (h : PutR cx ρ1 ns ss ρ2) : PutR cx ρ (x :: ns) (sl :: ss) ρ2 := .cons hs hp h
theorem PutR.len {ns sls} (h : PutR cx ρ ns sls ρ') : ns.length = sls.length := by
  induction h with
  | nil => rfl
  | cons _ _ _ ih => exact congrArg (· + 1) ih
inductive StL (l : L) (A : Around) (env : Env) : List (Value → Sem Unit) → List Str → Prop
  | nil : StL l A env [] []
  | cons {g n gs ns} (h : ∀ v (Q : Unit → Shared → Prop) s, wpAny l.M A (storeName env n v) Q NoE s → wpAny l.M A (g v) Q NoE s) (r : StL l A env gs ns) : StL l A env (g :: gs) (n :: ns)
theorem PL.tail {n : Str} {p : Sl × Value} {ps : List (Sl × Value)} (h : PL l cx f ρ s (p :: ps)) (a : Act l cx f ρ s) (b : Bound l cx f (put ρ n p.1) n p.2 s s') : PL l cx f (put ρ n p.1) s' ps := by
  refine ⟨fun q hq => ?_, (List.pairwise_cons.mp h.al).2, fun q hq xs hxs y ys hy hyq => ?_⟩
  · have hs := h.ok q (List.mem_cons_of_mem _ hq)
    obtain ⟨sl', v'⟩ := q
    cases sl' with
    | fz x => exact Rd.kp b.k (fun b hb => .inl (a.en.muO b hb)) hs
    | own xs => exact let ⟨D, vs, m, q1, q2, q3, q4, q5⟩ := hs; ⟨D, vs, m, q1, q2, b.lists D vs m q3, q4, q5.kp b.k fun b hb => .inl (a.en.muO b hb)⟩
  · rw [lookup_put] at hy
    by_cases hyn : y = n
    · subst hyn
      rw [if_pos rfl] at hy
      exact (List.pairwise_cons.mp h.al).1 q hq ys xs (Option.some.inj hy) hxs (Holds.uniq b.holds hyq)
    · rw [if_neg hyn] at hy
      exact (a.fr.at_ y _ hy).elim fun u z => h.off q (List.mem_cons_of_mem _ hq) xs hxs y ys hy (Holds.uniq (b.other y u hyn z.1) hyq ▸ z.1)
theorem puts_ok {ns : List Str} {sls : List Sl} (he : PutR cx ρ ns sls ρ') : ∀ {ps : List (Sl × Value)} {gs : List (Value → Sem Unit)} {s : Shared}, ps.map (·.1) = sls → StL l f.A f.env gs ns → Act l cx f ρ s → PL l cx f ρ s ps →
    wpAny l.M f.A (assignInOrder gs (ps.map (·.2))) (fun _ s' => Stored l cx f ρ' s s') NoE s := by
  induction he with
  | nil =>
    intro ps gs s e hg a _
    cases hg
    cases List.map_eq_nil_iff.mp e
    exact wpAny_pure ⟨.refl, a⟩
  | cons hn hp _ ih =>
    intro ps gs s e hg a h
    cases hg with
    | cons hg hgs =>
      cases ps with
      | nil => cases e
      | cons p ps =>
        cases e
        cases hp
        exact wpAny_bind (wpAny_holding (hg _ _ _ (bind_ok (sl := p.1) a hn (h.ok p List.mem_cons_self) (fun xs hxs y ys _ hy => h.off p List.mem_cons_self xs hxs y ys hy) fun s' b =>
          wpAny_mono (ih rfl hgs b.act (h.tail a b)) (fun _ s2 z => ⟨b.k.trans z.1, z.2⟩) fun _ _ z => z)))
/-- what slots come to -/
inductive Slots (l : L) (cx : Cx) (ρ : Ro) : List Expr → List Sl → Prop
  | nil : Slots l cx ρ [] []
  | own {e es as} : isNil e = true → EVs l cx ρ es as → Slots l cx ρ (e :: es) (.own [] :: as.map .fz)
  | cons {e es a r} : isStar e = false → EV l cx ρ e a → Slots l cx ρ es r → Slots l cx ρ (e :: es) (.fz a :: r)
theorem slots_nil : Slots l cx ρ [] [] := .nil
theorem slots_own {e es as} (he : isNil e = true) (h : EVs l cx ρ es as) : Slots l cx ρ (e :: es) (.own [] :: as.map .fz) := .own he h
theorem slots_cons {e es a r} (hg : (!isNil e && !isStar e) = true) (h : EV l cx ρ e a) (h2 : Slots l cx ρ es r) : Slots l cx ρ (e :: es) (.fz a :: r) :=
  .cons ((Bool.not_eq_true' _).mp (Bool.and_eq_true_iff.mp hg).2) h h2
structure SlEnd (l : L) (cx : Cx) (f : Fm) (ρ : Ro) (sls : List Sl) (s : Shared) (vs : List Value) (s' : Shared) (O' Mu' : Addr → Prop) : Prop where
  step : StepR f.O f.Mu O' Mu' s s'
  k : K0 s s'
  act : Act l cx (f.up O' Mu') ρ s'
  ps : ∃ ps, PL l cx (f.up O' Mu') ρ s' ps ∧ ps.map (·.1) = sls ∧ ps.map (·.2) = vs
theorem pl_fz {f : Fm} {as : List AV} {vs : List Value} (r : RdL s.heap f.O as vs) : ∃ ps, PL l cx f ρ s ps ∧ ps.map (·.1) = as.map .fz ∧ ps.map (·.2) = vs ∧ ∀ p ∈ ps, ∀ ys, p.1 ≠ .own ys := by
  induction as generalizing vs with
  | nil => exact ⟨[], .nil, rfl, (rdl_nil.mp r).symm, fun _ h => (List.not_mem_nil h).elim⟩
  | cons x as ih =>
    refine r.consE fun v ws h1 h2 => ?_
    exact let ⟨ps, p1, p2, p3, p4⟩ := ih h2; ⟨(.fz x, v) :: ps, .fz h1 p1, congrArg (Sl.fz x :: ·) p2, congrArg (v :: ·) p3, List.forall_mem_cons.mpr ⟨fun _ e => (nomatch e), p4⟩⟩
theorem slots_ok {f : Fm} {pos : Pos} {es : List Expr} {sls : List Sl} (he : Slots l cx ρ es sls) : ∀ {s : Shared}, Act l cx f ρ s →
    wpAny l.M f.A (spliced (backTo pos (starEach es f.env))) (fun vs s' => ∃ O' Mu', SlEnd l cx f ρ sls s vs s' O' Mu') NoE s := by
  induction he with
  | nil => exact fun {s} a => Calls.spliced_nil ⟨f.O, f.Mu, .of .refl, .refl, a, [], .nil, rfl, rfl⟩
  | own hnil h =>
    intro s a
    obtain ⟨p, rfl⟩ := isNil_form hnil
    rw [star_trees rfl]
    have hT := TA_lt a.base.tab
    refine Calls.spliced_cons (wpAny_List_spliced (Calls.spliced_nil ⟨Nat.zero_le _, ?_⟩))
    have k1 : K0 s { s with heap := s.heap.push { cls := .type "list", data := .seq ([] : List Value).toArray } } := .push1
    have a1 := a.addOwn (D := s.heap.objs.size) (C := fun _ => False) k1 (fun _ h => h.elim) ⟨Nat.le_refl _, by rw [show _ = _ + 1 from Heap.size_push ..]; exact Nat.lt_succ_self _⟩ (Nat.ne_of_gt hT)
    refine EVs.go (f := f.up (fun b => f.O b ∨ (False ∨ b = s.heap.objs.size)) fun b => f.Mu b ∨ b = s.heap.objs.size) h a1 .refl fun vs s2 k2 _ r2 => ?_
    obtain ⟨ps, p1, p2, p3, p4⟩ := pl_fz (l := l) (cx := cx) (ρ := ρ) (f := f.up (fun b => f.O b ∨ (False ∨ b = s.heap.objs.size)) fun b => f.Mu b ∨ b = s.heap.objs.size) r2
    have k12 := k1.trans k2
    exact ⟨_, _, .new k12 (fun _ h => h.elim) (Nat.le_refl _), k12, a1.k0 k2, (.own [], .ref s.heap.objs.size) :: ps,
      ⟨List.forall_mem_cons.mpr ⟨⟨_, #[], 0, rfl, .inr rfl, k2.heap _ _ (Nat.ne_of_gt hT) (fun h => h) (Heap.get?_push_size _ rfl), Nat.zero_le _, .nil⟩, p1.ok⟩, .cons (fun p hp _ ys _ e => absurd e (p4 p hp ys)) p1.al, List.forall_mem_cons.mpr ⟨fun _ _ y ys hy => new_not_held a k12 hy (Nat.le_refl _), p1.off⟩⟩,
      congrArg (Sl.own [] :: ·) p2, congrArg (Value.ref _ :: ·) p3⟩
  | cons hs h _ ih =>
    intro s a
    rw [star_trees hs]
    refine Calls.spliced_cons (h.go a .refl fun v s1 k1 _ r1 => wpAny_mono (ih (a.k0 k1)) (fun vs s2 q2 => ?_) fun _ _ q => q)
    obtain ⟨O', Mu', se⟩ := q2
    obtain ⟨ps, p1, p2, p3⟩ := se.ps
    exact ⟨O', Mu', (StepR.of k1.toW).trans se.step a.en.bound, k1.trans se.k, se.act, (_, v) :: ps, .fz (r1.move fun b o e1 e2 e3 => ⟨se.k.heap b o e1 (fun h => h) e3, fun z => (se.step.o b z).elim e2 fun y => Nat.lt_irrefl _ (Nat.lt_of_lt_of_le (Heap.lt_size e3) y)⟩) p1, congrArg (Sl.fz _ :: ·) p2, congrArg (v :: ·) p3⟩
theorem blockKind_of (a : Act l cx f ρ s) : f.env.blockKind = .function := by
  unfold Env.blockKind; rw [a.en.kind]; rfl
noncomputable def swapNames (k : Str → Option NameKind) (ts : List Expr) : List Str := ts.filterMap fun
    | .Name id pos => if k id == some .local && pos.line == (ts.head?.map (·.pos.line)).getD 0 then some id else none
    | _ => none
/-- two or three stores swapped: none, all, or out of the model -/
noncomputable def swapN (cx : Cx) (ts vs : List Expr) : Option (Option (List Str)) :=
  if !(ts.length == 2 || ts.length == 3) || vs.length != ts.length then some none
  else if vs.any isStar then some none
  else if (swapNames (kOf cx) ts).length != ts.length || (swapNames (kOf cx) ts).eraseDups.length != (swapNames (kOf cx) ts).length then some none
  else if vs.all (foldedForSure 8) then some none
  else if vs.all (constantsAlone 8) then none
  else some (some (swapNames (kOf cx) ts))
theorem swap_form {ts vs : List Expr} {k k' : Nat} {p p' : Pos} {env : Env} : swappedStores [.Tuple ts k p] (.Tuple vs k' p') env =
    (if !(ts.length == 2 || ts.length == 3) || vs.length != ts.length || env.blockKind != .function then pure none
     else if vs.any (fun | .Starred .. => true | _ => false) then pure none
     else if (swapNames env.kindOf ts).length != ts.length || (swapNames env.kindOf ts).eraseDups.length != (swapNames env.kindOf ts).length then pure none
     else if vs.all (foldedForSure 8) then pure none
     else if vs.all (constantsAlone 8) then (unsupported "assign.tuple-of-constant-expressions:order-of-the-stores" : Sem Unit) >>= fun _ => pure (some (swapNames env.kindOf ts))
     else pure (some (swapNames env.kindOf ts))) := by
  unfold swappedStores
  dsimp only [bind, pure]
  rfl
theorem ite_pick {c : Bool} {α β : Type} {x y : Option α} {p q : β} {F : Option α → β → Prop} (h1 : c = true → F x p) (h2 : c = false → F y q) : F (if c = true then x else y) (if c = true then p else q) := by
  cases c
  · exact h2 rfl
  · exact h1 rfl
theorem swap_eq (a : Act l cx f ρ s) {ts vs : List Expr} {k k' : Nat} {p p' : Pos} {r : Option (List Str)} (h : swapN cx ts vs = some r) : swappedStores [.Tuple ts k p] (.Tuple vs k' p') f.env = pure r := by
  have hst : (fun e : Expr => match e with | .Starred .. => true | _ => false) = isStar := by funext e; cases e <;> rfl
  rw [swap_form, hst, show f.env.kindOf = kOf cx from funext (kind_of a), blockKind_of a, bne_self_eq_false, Bool.or_false]
  revert h
  let F : Option (Option (List Str)) → Sem (Option (List Str)) → Prop := fun x m => x = some r → m = pure r
  have z : ∀ {x}, F (some x) (pure x) := fun h => congrArg pure (Option.some.inj h)
  exact ite_pick (F := F) (fun _ => z) fun _ => ite_pick (F := F) (fun _ => z) fun _ => ite_pick (F := F) (fun _ => z) fun _ => ite_pick (F := F) (fun _ => z) fun _ => ite_pick (F := F) (fun _ h => nomatch h) fun _ => z
/-- the names of a tuple of names -/
inductive Names : List Expr → List Str → Prop
  | nil : Names [] []
  | cons {x p es ns} : Names es ns → Names (.Name x p :: es) (x :: ns)
theorem names_nil : Names [] [] := .nil
theorem names_cons {x p es ns} (h : Names es ns) : Names (.Name x p :: es) (x :: ns) := .cons h
theorem st_names {A : Around} {env : Env} {ts : List Expr} {ns : List Str} (h : Names ts ns) : StL l A env ((assignEach ts env).map (·.2)) ns ∧ (assignEach ts env).length = ns.length ∧ (assignEach ts env).findIdx? (·.1) = none := by
  induction h with
  | nil => exact ⟨.nil, rfl, rfl⟩
  | @cons n p ts _ _ ih => exact ⟨.cons (fun v Q s q => wpAny_assign_Name q) ih.1, congrArg (· + 1) ih.2.1, by
      show ((false, assign (.Name n p) env) :: assignEach ts env).findIdx? (·.1) = none
      rw [List.findIdx?_cons, ih.2.2]; rfl⟩
theorem st_binds {A : Around} {env : Env} : ∀ (ns : List Str), StL l A env (ns.map fun n => bindName env n) ns
  | [] => .nil
  | n :: ns => .cons (fun v Q s q => wpAny_bindName q) (st_binds ns)
/-- a tuple of names takes a tuple of values -/
inductive TupA (l : L) (cx : Cx) (ρ : Ro) (ts vs : List Expr) (ρ' : Ro) : Prop
  | plain {sls ns} : Slots l cx ρ vs sls → sls.length ≤ sizeLine → swapN cx ts vs = some none → Names ts ns → PutR cx ρ ns sls ρ' → TupA l cx ρ ts vs ρ'
  | swap {sls ns} : Slots l cx ρ vs sls → sls.length ≤ sizeLine → swapN cx ts vs = some (some ns) → PutR cx ρ ns.reverse sls.reverse ρ' → TupA l cx ρ ts vs ρ'
theorem tupN_plain {ts vs sls ns ρ1} (hw : swapN cx ts vs = some none) (h1 : Slots l cx ρ vs sls) (hz : sls.length ≤ sizeLine) (hn : Names ts ns) (h : PutR cx ρ ns sls ρ1) : TupA l cx ρ ts vs ρ1 := .plain h1 hz hw hn h
theorem tupN_swap {ts vs sls ns nr sr ρ1} (hn0 : Names ts ns) (hw : swapN cx ts vs = some (some ns)) (h1 : Slots l cx ρ vs sls) (hz : sls.length ≤ sizeLine) (hn : ns.reverse = nr) (hr : sls.reverse = sr) (h : PutR cx ρ nr sr ρ1) : TupA l cx ρ ts vs ρ1 := .swap h1 hz hw (hn ▸ hr ▸ h)
/-- the slots evaluated, then their tuple made, then opened -/
theorem tup_go {k' : Nat} {p' : Pos} {vs : List Expr} {sls : List Sl} {Q : Value → Shared → Prop} (h1 : Slots l cx ρ vs sls) (hz : sls.length ≤ sizeLine) (a : Act l cx f ρ s)
    (n : ∀ D ws s₂, s₂.heap.IsTuple D ws → ws.size = sls.length → (∀ (ρ' : Ro) (ns : List Str) (gs : List (Value → Sem Unit)) (rv : Bool) h', Heap.ExtBut s₂.heap.objs.size s₂.heap h' → s₂.heap.objs.size ≤ h'.objs.size → StL l f.A f.env gs ns → PutR cx ρ ns (if rv then sls.reverse else sls) ρ' →
      wpAny l.M f.A (assignInOrder gs (if rv then ws.toList.reverse else ws.toList)) (fun _ s' => Went l cx f ρ' s s') NoE { s₂ with heap := h' }) → Q (.ref D) s₂) : wpAny l.M f.A (eval (.Tuple vs k' p') f.env) Q NoE s := by
  refine wpAny_Tuple_spliced (wpAny_mono (slots_ok h1 a) (fun ws s₁ q => ?_) fun _ _ z => z)
  obtain ⟨O', Mu', se⟩ := q
  obtain ⟨ps, p1, p2, p3⟩ := se.ps
  have hl : ws.length = sls.length := by rw [← p2, ← p3, List.length_map, List.length_map]
  refine ⟨hl ▸ hz, n _ ws.toArray _ ⟨_, Heap.get?_push_size _ rfl, rfl, 0, rfl⟩ hl fun ρ' ns gs rv h' hx hz' hg hp => ?_⟩
  have k : K0 s₁ { s₁ with heap := h' } := Kp.trans (K0.push1 (o := { cls := .type "tuple", data := .seq ws.toArray })) (K0.ext (s := { s₁ with heap := s₁.heap.push { cls := .type "tuple", data := .seq ws.toArray } }) hx hz')
  have fin : ∀ s', Stored l cx (f.up O' Mu') ρ' { s₁ with heap := h' } s' → Went l cx f ρ' s s' := fun s' z => ⟨O', Mu', (se.step.trans (.of k.toW) a.en.bound).trans (.of z.1) a.en.bound, z.2⟩
  cases rv
  · have := puts_ok (f := f.up O' Mu') hp p2 hg (se.act.k0 k) (p1.k0 se.act k)
    rw [p3] at this
    exact wpAny_mono this (fun _ => fin) fun _ _ z => z
  · have := puts_ok (f := f.up O' Mu') (ps := ps.reverse) hp (by rw [List.map_reverse, p2]; rfl) hg (se.act.k0 k) (p1.k0 se.act k).rev
    rw [List.map_reverse, p3] at this
    exact wpAny_mono this (fun _ => fin) fun _ _ z => z
theorem tup_ok {ts vs : List Expr} {k k' : Nat} {p p' pos : Pos} (he : TupA l cx ρ ts vs ρ') (a : Act l cx f ρ s) :
    wpAny l.M f.A (exec (.Assign [.Tuple ts k p] (.Tuple vs k' p') pos) f.env) (fun fl s' => fl = .next ∧ Went l cx f ρ' s s') NoE s := by
  rw [exec_Assign_arm]
  refine wpAny_bind (wpAny_standAt (wpAny_bind (wpAny_pure ?_)))
  rw [if_neg (by decide)]
  cases he with
  | @swap sls names h1 hz hsw hp =>
    refine wpAny_bind (tup_go h1 hz a fun D ws s₂ hT hl n => ?_)
    rw [swap_eq a hsw]
    refine wpAny_bind (wpAny_pure ?_)
    show wpAny _ _ (do
      rule "assign.swapped-stores"
      let items ← unpackItems (.ref D) names.length none
      assignInOrder (names.reverse.map fun n => bindName f.env n) items.reverse
      pure Flow.next) _ _ _
    have hlen := hp.len
    rw [List.length_reverse, List.length_reverse, ← hl] at hlen
    refine wpAny_bind (wpAny_rule (wpAny_bind ?_))
    rw [hlen]
    refine with_size (wpAny_unpackItems_tuple a.hh hT fun h' hx hz' => ?_)
    exact wpAny_bind (wpAny_mono (n ρ' names.reverse _ true h' hx hz' (st_binds _) hp) (fun _ s' z => wpAny_pure ⟨rfl, z⟩) fun _ _ z => z)
  | @plain sls ns h1 hz hsw hns hp =>
    refine wpAny_bind (tup_go h1 hz a fun D ws s₂ hT hl n => ?_)
    rw [swap_eq a hsw]
    refine wpAny_bind (wpAny_pure ?_)
    show wpAny _ _ (do assign (.Tuple ts k p) f.env (.ref D); pure Flow.next) _ _ _
    rw [arm_assign_Tuple]
    obtain ⟨t1, t2, t3⟩ := st_names (l := l) (A := f.A) (env := f.env) hns
    have hlen := hp.len
    rw [← hl] at hlen
    refine wpAny_bind (wpAny_bind (wpAny_standAt ?_))
    unfold unpack
    rw [t2, t3, hlen]
    refine wpAny_bind (wpAny_holding (with_size (wpAny_unpackItems_tuple a.hh hT fun h' hx hz' => ?_)))
    exact wpAny_mono (n ρ' ns _ false h' hx hz' t1 hp) (fun _ s' z => wpAny_pure ⟨rfl, z⟩) fun _ _ z => z
end
/-- an operation in place comes to a value -/
structure AugOk (op : Operator) (a b r : AV) : Prop where
  ok : ∀ {prog w A O s va vb}, Rd s.heap O a va → Rd s.heap O b vb → wpAny (model prog w) A (inplaceOp op va vb) (Ends O s r) NoE s
theorem aug_II {op a b r} (H : ∀ prog w A O s t u, wpAny (model prog w) A (inplaceOp op (.int a t) (.int b u)) (Ends O s r) NoE s) : AugOk op (.int a) (.int b) r := .mk fun r1 r2 => r1.intE fun t => r2.intE fun u => H _ _ _ _ _ t u
theorem aug_addI {a b : Int} : AugOk .Add (.int a) (.int b) (.int (a + b)) := aug_II fun _ _ _ _ _ _ _ => PyProof.Rows.iadd_int .int
theorem aug_addS {x y : Str} (h : x.length + y.length ≤ sizeLine) : AugOk .Add (.str x) (.str y) (.str (x ++ y)) := .mk fun r1 r2 => r1.strE fun t _ => r2.strE fun u _ =>
  with_tk (PyProof.Rows.iadd_str (fun _ _ htk => .strT (Str.length_append _ _ ▸ h) htk) h)
theorem aug_fdiv {a b : Int} (h : b ≠ 0) (h2 : b.natAbs < 1073741824) : AugOk .FloorDiv (.int a) (.int b) (.int (a.fdiv b)) := aug_II fun _ _ _ _ _ _ _ => ifloordiv_int h .int (.inl (PyProof.noPylong_small h2))
theorem aug_mod {a b : Int} (h : b ≠ 0) : AugOk .Mod (.int a) (.int b) (.int (a.fmod b)) := aug_II fun _ _ _ _ _ _ _ => imod_int h .int
theorem upd_plain {h : Heap} {D : Addr} {vs : Array Value} {n : Nat} (f : Array Value → Array Value) (g : h.get? D = some { cls := .type "list", data := .seq vs n }) : ∃ n', (h.update D (Obj.mapSeq f)).get? D = some { cls := .type "list", data := .seq (f vs) n' } :=
  ⟨_, Heap.get?_update_self _ g rfl⟩
section
variable {l : L} {cx : Cx} {f : Fm} {ρ ρ' : Ro} {s s' s₀ : Shared} {x : Str} {xs ys : List AV} {D : Addr} {v : Value} {y : AV}
theorem own_vs (a : Act l cx f ρ s) (hx : ρ.lookup x = some (.own xs)) (hD : Holds f.env s.heap x (.ref D)) : ∃ vs n, OwnAt f s xs D vs n ∧ vs.size = xs.length := by
  obtain ⟨D', vs, n, e, q⟩ := own_at a hx hD
  cases e
  exact ⟨vs, n, q, Array.length_toList.symm.trans q.2.2.2.length⟩
/-- a method of a list that a name owns -/
theorem ownCall1 {m : Str} {id : String} {p apos pos : Pos} {e : Expr} {Q : Value → Shared → Prop} (a : Act l cx f ρ s) (hx : ρ.lookup x = some (.own xs)) (ho : odd x = false) (hl : (apos.endLine == pos.line) = true) (hst : isStar e = false)
    (slot : Slot "list" m id) (hty : typeOf (.builtin id) = pure (.type "method_descriptor"))
    (h : ∀ D, Holds f.env s.heap x (.ref D) → wpAny l.M f.A (eval e f.env) (fun v s' => wpAny l.M f.A (call (.builtin id) [.ref D, v]) Q NoE s') NoE s) :
    wpAny l.M f.A (eval (.Call (.Attribute (.Name x p) m apos) [e] [] pos) f.env) Q NoE s := by
  have htr : backTo pos (starEach [e] f.env) = [(false, eval e f.env)] := star_trees hst
  obtain ⟨D, vs, n, hv, mD, g, hz, hr⟩ := own_get a hx
  have ho' := Bool.or_eq_false_iff.mp ho
  exact wpAny_Call_method_late rfl (by rw [htr]; rfl) hl htr (wpAny_Name (loadName_ok a.en.kind hv ho'.2 ⟨"list", id, PySem.F.plainAttrs_list, slot, hty, ⟨_, g, rfl⟩, fun b hb => ⟨_, (Value.ref.inj hb) ▸ g, rfl⟩,
    Calls.callWith_builtin rfl (Calls.evalArgs_plain (Calls.spliced_cons (wpAny_mono (h D hv) (fun v s' q => Calls.spliced_nil q) fun _ _ z => z)))⟩) ho'.1)
theorem lt_line {n : Nat} (h : n < 1000000) : n + 1 ≤ sizeLine := Nat.le_trans h (by rw [sizeLine_eq]; decide)
theorem own_append (a : Act l cx f ρ s) (hx : ρ.lookup x = some (.own xs)) (hD : Holds f.env s.heap x (.ref D)) (r : Rd s.heap f.O y v) (hz : xs.length < 1000000) :
    wpAny l.M f.A (call (.builtin "list.append") [.ref D, v]) (fun _ s' => Stored l cx f (put ρ x (.own (xs ++ [y]))) s s') NoE s := by
  obtain ⟨vs, n, ⟨mD, g, hz', hr⟩, hl⟩ := own_vs a hx hD
  refine wpAny_list_append_plain ⟨n, g⟩ (fun h' hp hs => ?_) hz'
  obtain ⟨n', hp⟩ := hp
  exact a.mutate (tk := s.toks) hx hD hs hp (by rw [Array.size_push, hl]; exact lt_line hz) (by rw [Array.toList_push]; exact hr.append (.single r)) fun h => h
theorem own_extend (a : Act l cx f ρ s) (hx : ρ.lookup x = some (.own xs)) (hD : Holds f.env s.heap x (.ref D)) (r : Rd s.heap f.O (.list ys) v) (hz : xs.length + ys.length < 1000000) :
    wpAny l.M f.A (call (.builtin "list.extend") [.ref D, v]) (fun _ s' => Stored l cx f (put ρ x (.own (xs ++ ys))) s s') NoE s := by
  obtain ⟨vs, n, ⟨mD, g, hz', hr⟩, hl⟩ := own_vs a hx hD
  refine r.listE fun b ws n2 q => ?_
  have hs : Heap.SameBut D s.heap (s.heap.update D (Obj.mapSeq fun x => x ++ ws)) := Heap.SameBut.update ..
  obtain ⟨n', g'⟩ := upd_plain (fun x => x ++ ws) g
  have hsz : vs.size + ws.size ≤ sizeLine := by rw [hl, q.len]; exact Nat.le_of_succ_le (lt_line hz)
  have hm := a.mutate (tk := s.toks) (ys := xs ++ ys) hx hD hs g' (by rw [Array.size_append]; exact hsz) (by rw [Array.toList_append]; exact hr.append q.2.2.2.2) fun h => h
  have hbig : ¬(!vs.isEmpty && Builtin.List.listTooLong (vs.size + ws.size)) = true := fun h =>
    absurd (of_decide_eq_true (Bool.and_eq_true_iff.mp h).2) (Nat.not_lt.mpr hsz)
  exact call_meets PySem.F.slot_list_extend ⟨_, g, rfl⟩ PySem.F.entry_list_extend (PySem.F.args_list_extend_2 _ _) (PySem.AutoSeq1.list_extend_list_list_0 D vs n b ws n2 hbig hz' (Nat.le_succ_of_le hsz)) ⟨g, q.2.2.1, hm⟩
theorem rdl_erase {h : Heap} {O : Addr → Prop} : ∀ {xs : List AV} {vs : List Value}, RdL h O xs vs → ∀ k : Nat, RdL h O (xs.eraseIdx k) (vs.eraseIdx k)
  | [], _, r, k => r.nilE (G := fun vs => RdL h O _ (vs.eraseIdx k)) .nil
  | x :: xs, _, r, 0 => r.consE (G := fun vs => RdL h O _ (vs.eraseIdx 0)) fun _ _ _ q => q
  | x :: xs, _, r, k + 1 => r.consE (G := fun vs => RdL h O _ (vs.eraseIdx (k + 1))) fun _ _ q q' => .cons q (rdl_erase q' k)
theorem rdl_set {h : Heap} {O : Addr → Prop} (q : Rd h O y v) : ∀ {xs : List AV} {vs : List Value}, RdL h O xs vs → ∀ k : Nat, RdL h O (xs.set k y) (vs.set k v)
  | [], _, r, k => r.nilE (G := fun vs => RdL h O _ (vs.set k v)) .nil
  | x :: xs, _, r, 0 => r.consE (G := fun vs => RdL h O _ (vs.set 0 v)) fun _ _ _ q' => .cons q q'
  | x :: xs, _, r, k + 1 => r.consE (G := fun vs => RdL h O _ (vs.set (k + 1) v)) fun _ _ p q' => .cons p (rdl_set q q' k)
theorem own_pop {k : Int} (a : Act l cx f ρ s) (hx : ρ.lookup x = some (.own xs)) (hD : Holds f.env s.heap x (.ref D)) (r : Rd s.heap f.O (.int k) v) (h0 : 0 ≤ k ∧ k < 2 ^ 62) (hk : xs[k.toNat]? = some y) :
    wpAny l.M f.A (call (.builtin "list.pop") [.ref D, v]) (fun u s' => Stored l cx f (put ρ x (.own (xs.eraseIdx k.toNat))) s s' ∧ Rd s'.heap f.O y u ∧ ∀ z q, Holds f.env s.heap z q → Holds f.env s'.heap z q) NoE s := by
  obtain ⟨vs, n, ⟨mD, g, hz', hr⟩, hl⟩ := own_vs a hx hD
  refine r.intE fun t => ?_
  obtain ⟨u, hu, hru⟩ := hr.get hk
  rw [Array.getElem?_toList] at hu
  have hlt : k.toNat < vs.size := (Array.getElem?_eq_some_iff.mp hu).1
  have hs : Heap.SameBut D s.heap (s.heap.update D (Obj.mapSeq fun xs => xs.eraseIdxIfInBounds k.toNat)) := Heap.SameBut.update ..
  obtain ⟨n', g'⟩ := upd_plain (fun xs => xs.eraseIdxIfInBounds k.toNat) g
  have hm := a.mutate (tk := s.toks) (ys := xs.eraseIdx k.toNat) hx hD hs g' (Nat.le_trans (MeetsSeq.size_erased _ _) hz') (by
    rw [Array.toList_eraseIdxIfInBounds]; exact rdl_erase hr _) fun h => h
  have hap := own_apart a g
  exact call_meets PySem.F.slot_list_pop ⟨_, g, rfl⟩ PySem.F.entry_list_pop (PySem.F.args_list_pop_2 _ _) (PySem.MeetsSeq.list_pop_at D vs n k t k.toNat u (fitsIndex_of h0.1 (Int.lt_trans h0.2 (by decide))) (seqIndex_of h0.1 (by rw [← Int.toNat_of_nonneg h0.1]; exact Int.ofNat_lt.mpr hlt)) hu hz')
    ⟨g, hm, Rd.kp hm.1 (fun b hb => .inl (a.en.muO b hb)) hru, fun z q hq => hq.mono fun b o e hb => (hs.2 b (fun z => hb.elim (fun q => hap.1 (z ▸ q)) fun ⟨m, q⟩ => hap.2 m (z ▸ q))).trans e⟩
theorem own_set {k : Int} {t : Tok} (a : Act l cx f ρ s) (hx : ρ.lookup x = some (.own xs)) (hD : Holds f.env s.heap x (.ref D)) (h0 : 0 ≤ k ∧ k < 2 ^ 62) (hk : k.toNat < xs.length) (r : Rd s.heap f.O y v) :
    wpAny l.M f.A (setItem (.ref D) (.int k t) v) (fun _ s' => Stored l cx f (put ρ x (.own (xs.set k.toNat y))) s s') NoE s := by
  obtain ⟨vs, n, ⟨mD, g, hz', hr⟩, hl⟩ := own_vs a hx hD
  have hil : s.heap.IsList D vs := ⟨_, g, rfl, n, rfl⟩
  have hs : Heap.SameBut D s.heap (s.heap.update D (Obj.mapSeq (·.setIfInBounds k.toNat v))) := Heap.SameBut.update ..
  obtain ⟨n', g'⟩ := upd_plain (·.setIfInBounds k.toNat v) g
  have fin := a.mutate (tk := s.toks) (ys := xs.set k.toNat y) hx hD hs g' (by rw [Array.size_setIfInBounds]; exact hz') (by
    rw [Array.toList_setIfInBounds]; exact rdl_set r hr _) fun h => h
  have hfit := fitsIndex_of h0.1 (show k < 2 ^ 63 from Int.lt_trans h0.2 (by decide))
  have h1 := h0.1
  clear h0
  unfold setItem
  refine wpAny_holding ?_
  refine wpAny_bind (wpAny_sequenceKey hil.typeIs (by decide) ?_)
  refine wpAny_bind (wpAny_callSpecial?_slot (name := Str.ofString "__setitem__") hil.typeIs slot_list_setitem
    (wpAny_call_entry slot_list_setitem hil.typeIs entry_list_setitem ?_ (args_list_setitem _ _ _)))
  show wpAny _ _ (Builtin.List.listSubscript? (.int k t) >>= _) _ _ s
  refine wpAny_bind (wpAny_listSubscript_int hfit ?_)
  clear hfit
  obtain ⟨j, rfl⟩ := Int.eq_ofNat_of_zero_le h1
  have hj : j < vs.size := hl ▸ hk
  have hx' : vs[j]? = some vs[j] := Array.getElem?_eq_getElem hj
  show wpAny _ _ ((seqItemAt D j >>= fun r => pure (r.map (j, ·))) >>= _) _ _ s
  refine wpAny_bind (wpAny_bind (wpAny_seqItemAt g rfl (wpAny_pure ?_)))
  rw [hx']
  show wpAny _ _ (setSeqItemAt D j v >>= _) _ _ s
  refine wpAny_bind (wpAny_setSeqItemAt g rfl ?_)
  first
    | exact wpAny_bind (wpAny_pure (wpAny_pure ⟨.none, rfl, wpAny_pure fin⟩))
    | exact wpAny_pure ⟨.none, rfl, wpAny_pure fin⟩
end
inductive Fl where
  | next
  | ret (a : AV)
/-- the names that an expression reads -/
noncomputable def nameL (n : Nat) (acc : List Str) : Expr → List Str := match n with
  | 0 => fun _ => acc
  | n + 1 => fun e => match e with
    | .Name x _ => x :: acc
    | .BinOp l _ r _ => nameL n (nameL n acc r) l
    | .UnaryOp _ x _ => nameL n acc x
    | .BoolOp _ vs _ => vs.foldl (fun acc e => nameL n acc e) acc
    | .IfExp a b c _ => nameL n (nameL n (nameL n acc c) b) a
    | .Compare l _ rs _ => rs.foldl (fun acc e => nameL n acc e) (nameL n acc l)
    | .List es _ => es.foldl (fun acc e => nameL n acc e) acc
    | .Tuple es _ _ => es.foldl (fun acc e => nameL n acc e) acc
    | .Call f as _ _ => as.foldl (fun acc e => nameL n acc e) (nameL n acc f)
    | .Attribute o _ _ => nameL n acc o
    | .Subscript v i _ => nameL n (nameL n acc i) v
    | .Slice a b _ _ => (a.toList ++ b.toList).foldl (fun acc e => nameL n acc e) acc
    | .ListComp elt gens _ _ => gens.foldl (fun acc g => g.ifs.foldl (fun acc e => nameL n acc e) (nameL n acc g.iter)) (nameL n acc elt)
    | _ => acc
noncomputable def namesIn (e : Expr) : List Str := nameL 12 [] e
noncomputable def frzS : Sl → Sl
  | .own xs => .fz (.list xs)
  | s => s
noncomputable def frzI (c : Bool) : Sl → Sl
  | .own xs => cond c (.fz (.list xs)) (.own xs)
  | s => s
noncomputable def frzM (ns : List Str) : Ro → Ro
  | [] => []
  | (x, s) :: r => (x, frzI (ns.contains x) s) :: frzM ns r
theorem frzM_look {ns : List Str} {n : Str} : ∀ {ρ : Ro}, (frzM ns ρ).lookup n = if ns.contains n then (ρ.lookup n).map frzS else ρ.lookup n
  | [] => by cases h : ns.contains n <;> rfl
  | (y, s) :: r => by
    rw [frzM, List.lookup_cons, List.lookup_cons, frzM_look]
    cases h : n == y with
    | false => rfl
    | true =>
      cases eq_of_beq h
      cases h : ns.contains n <;> cases s <;> rfl
theorem frz1_look {ρ : Ro} {x n : Str} : (frz1 ρ x).lookup n = if x == n then (ρ.lookup n).map frzS else ρ.lookup n := by
  unfold frz1
  cases h : x == n with
  | false =>
    cases hx : ρ.lookup x with
    | none => rfl
    | some sl => cases sl with
      | fz => rfl
      | own xs => exact (lookup_put ..).trans (if_neg fun e => by rw [e, beq_self_eq_true] at h; cases h)
  | true =>
    cases eq_of_beq h
    cases hx : ρ.lookup x with
    | none => exact hx
    | some sl => cases sl with
      | fz => exact hx
      | own xs => exact (lookup_put ..).trans (if_pos rfl)
theorem frz_look {n : Str} : ∀ {ns : List Str} {ρ : Ro}, (frz ρ ns).lookup n = if ns.contains n then (ρ.lookup n).map frzS else ρ.lookup n
  | [], _ => rfl
  | x :: r, ρ => by
    rw [frz, frz_look, frz1_look, List.contains_cons, show (n == x) = (x == n) from Bool.beq_comm]
    cases x == n
    · rfl
    · cases r.contains n
      · rfl
      · cases ρ.lookup n with
        | none => rfl
        | some sl => cases sl <;> rfl
theorem fm_nil {ns} : frzM ns [] = [] := rfl
theorem fm_fz {ns x a r r'} (h : frzM ns r = r') : frzM ns ((x, .fz a) :: r) = (x, .fz a) :: r' := by rw [frzM, h]; rfl
theorem fm_hit {ns x a r r'} (hc : ns.contains x = true) (h : frzM ns r = r') : frzM ns ((x, .own a) :: r) = (x, .fz (.list a)) :: r' := by rw [frzM, h, hc]; rfl
theorem fm_miss {ns x a r r'} (hc : ns.contains x = false) (h : frzM ns r = r') : frzM ns ((x, .own a) :: r) = (x, .own a) :: r' := by rw [frzM, h, hc]; rfl
section
variable {l : L} {cx : Cx} {f : Fm} {ρ ρ' ρ0 ρ1 ρ2 : Ro} {s s' s₀ : Shared}
noncomputable def FlowOk (O : Addr → Prop) (fl : Fl) (c : Flow) (s : Shared) : Prop := match fl with
  | .next => c = .next
  | .ret a => ∃ v, c = .ret v ∧ Rd s.heap O a v
noncomputable def Ran (l : L) (cx : Cx) (f : Fm) (r : Ro × Fl) (s : Shared) (c : Flow) (s' : Shared) : Prop := ∃ O' Mu', StepR f.O f.Mu O' Mu' s s' ∧ Act l cx (f.up O' Mu') r.1 s' ∧ FlowOk O' r.2 c s'
theorem Ran.next {c} (h : c = .next) (g : Went l cx f ρ' s s') : Ran l cx f (ρ', .next) s c s' := let ⟨O', Mu', a, b⟩ := g; ⟨O', Mu', a, b, h⟩
theorem Ran.after {r c O₁ Mu₁} (a : Act l cx f ρ s₀) (st : StepR f.O f.Mu O₁ Mu₁ s₀ s) (g : Ran l cx (f.up O₁ Mu₁) r s c s') : Ran l cx f r s₀ c s' := let ⟨O', Mu', p, q⟩ := g; ⟨O', Mu', st.trans p a.en.bound, q⟩
theorem Ran.k0 {r c} (a : Act l cx f ρ s₀) (k : K0 s₀ s) (g : Ran l cx f r s c s') : Ran l cx f r s₀ c s' := Ran.after (O₁ := f.O) (Mu₁ := f.Mu) a (.of k.toW) g
/-- statements' run -/
structure XS (l : L) (cx : Cx) (ρ : Ro) (b : List Stmt) (r : Ro × Fl) : Prop where
  ok : ∀ f s, Act l cx f ρ s → wpAny l.M f.A (execs b f.env) (Ran l cx f r s) NoE s
structure SS (l : L) (cx : Cx) (ρ : Ro) (st : Stmt) (r : Ro × Fl) : Prop where
  ok : ∀ f s, Act l cx f ρ s → wpAny l.M f.A (exec st f.env) (Ran l cx f r s) NoE s
theorem SS.frz {st r ns} (hf : frzM ns ρ = ρ0) (h : SS l cx ρ0 st r) : SS l cx ρ st r := .mk fun f s a => by
  subst hf
  obtain ⟨O', Mu', st', a'⟩ := frz_ok ns a
  exact wpAny_mono (h.ok (f.up O' Mu') s (a'.weak fun n sl h => (frzM_look.trans frz_look.symm).symm.trans h)) (fun _ _ z => Ran.after a st' z) fun _ _ z => z
theorem run_nil : XS l cx ρ [] (ρ, .next) := .mk fun f s a => wpAny_execs_nil (.next rfl (.refl a))
theorem run_cons {st rest r} (h1 : SS l cx ρ st (ρ1, .next)) (h2 : XS l cx ρ1 rest r) : XS l cx ρ (st :: rest) r := .mk fun f s a =>
  wpAny_execs_cons (wpAny_mono (h1.ok f s a) (fun c s₁ q => by
    obtain ⟨O', Mu', st', a', rfl⟩ := q
    exact wpAny_mono (h2.ok (f.up O' Mu') s₁ a') (fun _ _ z => Ran.after a st' z) fun _ _ z => z) fun _ _ z => z)
theorem run_ret {st rest v} (h1 : SS l cx ρ st (ρ1, .ret v)) : XS l cx ρ (st :: rest) (ρ1, .ret v) := .mk fun f s a =>
  wpAny_execs_cons (wpAny_mono (h1.ok f s a) (fun c s₁ q => by
    obtain ⟨O', Mu', st', a', u, rfl, hu⟩ := q
    exact ⟨O', Mu', st', a', u, rfl, hu⟩) fun _ _ z => z)
/-- what follows a statement -/
inductive Cont (l : L) (cx : Cx) (rest : List Stmt) : Ro × Fl → Ro × Fl → Prop
  | next {ρ : Ro} {r} : XS l cx ρ rest r → Cont l cx rest (ρ, .next) r
  | ret {ρ : Ro} {a} : Cont l cx rest (ρ, .ret a) (ρ, .ret a)
theorem cont_ret {rest a} : Cont l cx rest (ρ, .ret a) (ρ, .ret a) := .ret
theorem cont_next {rest r} (h : XS l cx ρ rest r) : Cont l cx rest (ρ, .next) r := .next h
theorem run_go {st rest r r1} (h1 : SS l cx ρ st r1) (h2 : Cont l cx rest r1 r) : XS l cx ρ (st :: rest) r := by
  cases h2 with
  | next h => exact run_cons h1 h
  | ret => exact run_ret h1
noncomputable def pick (c : Bool) (b e : List Stmt) : List Stmt := cond c b e
theorem pick_T {b e r} (h : XS l cx ρ b r) : XS l cx ρ (pick true b e) r := h
theorem pick_F {b e r} (h : XS l cx ρ e r) : XS l cx ρ (pick false b e) r := h
theorem SS_if {t b e p c r} (hf : frzM (namesIn t) ρ = ρ0) (h1 : TV l cx ρ0 t c) (hb : XS l cx ρ0 (pick c b e) r) : SS l cx ρ (.If t b e p) r := .frz hf <| .mk fun f s a =>
  wpAny_If (h1.go a .refl fun s' k _ => by
    have h := wpAny_mono (hb.ok f s' (a.k0 k)) (fun _ _ z => z.k0 a k) fun _ _ z => z
    cases c <;> exact h)
theorem SS_ifT {t b e p c r} (hf : frzM (namesIn t) ρ = ρ0) (h1 : TV l cx ρ0 t c) (hc : c = true) (h : XS l cx ρ0 b r) : SS l cx ρ (.If t b e p) r := by subst hc; exact SS_if hf h1 h
theorem SS_ifF {t b e p c r} (hf : frzM (namesIn t) ρ = ρ0) (h1 : TV l cx ρ0 t c) (hc : c = false) (h : XS l cx ρ0 e r) : SS l cx ρ (.If t b e p) r := by subst hc; exact SS_if hf h1 h
theorem run_if {t b e p rest c c' r r1} (hf : frzM (namesIn t) ρ = ρ0) (h1 : TV l cx ρ0 t c) (hc : c = c') (hb : XS l cx ρ0 (pick c' b e) r1) (h2 : Cont l cx rest r1 r) : XS l cx ρ (.If t b e p :: rest) r := by
  subst hc; exact run_go (SS_if hf h1 hb) h2
theorem SS_ret {e p a} (hf : frzM (namesIn e) ρ = ρ0) (h : EV l cx ρ0 e a) : SS l cx ρ (.Return (some e) p) (ρ0, .ret a) := .frz hf <| .mk fun f s ac =>
  wpAny_Return_some (h.go ac .refl fun v s' k _ r => ⟨f.O, f.Mu, .of k.toW, ac.k0 k, v, rfl, r⟩)
theorem run_retE {e p rest a} (hf : frzM (namesIn e) ρ = ρ0) (h : EV l cx ρ0 e a) : XS l cx ρ (.Return (some e) p :: rest) (ρ0, .ret a) := run_ret (SS_ret hf h)
theorem Went.pre (a : Act l cx f ρ s₀) (k : K0 s₀ s) (g : Went l cx f ρ' s s') : Went l cx f ρ' s₀ s' := let ⟨O', Mu', st, q⟩ := g; ⟨O', Mu', (StepR.of k.toW).trans st a.en.bound, q⟩
/-- an assignment's run -/
structure AS (l : L) (cx : Cx) (ρ : Ro) (tgt value : Expr) (ρ' : Ro) : Prop where
  ok : ∀ pos f s, Act l cx f ρ s → wpAny l.M f.A (exec (.Assign [tgt] value pos) f.env) (fun c s' => c = .next ∧ Went l cx f ρ' s s') NoE s
theorem SS_asg {tgt v p} (hf : frzM (namesIn v) ρ = ρ0) (h : AS l cx ρ0 tgt v ρ1) : SS l cx ρ (.Assign [tgt] v p) (ρ1, .next) := .frz hf <| .mk fun f s a => wpAny_mono (h.ok p f s a) (fun _ _ z => .next z.1 z.2) fun _ _ z => z
noncomputable def swapB (cx : Cx) (sc : Scope) (vpos : Pos) (n : Str) (np : Pos) : Bool := kOf cx n == some .local && np.line == vpos.line && !(sc.names.any fun (m, k) => m == n && (k == .local || k == .cell))
theorem swapsWith_form {elt : Expr} {gens : List Comprehension} {sc : Scope} {p : Pos} {n : Str} {np : Pos} {line : Nat} (a : Act l cx f ρ s) : swapsWith (.ListComp elt gens sc p) (some (.Name n np)) line f.env = pure (swapB cx sc p n np) := by
  have e : swapsWith (.ListComp elt gens sc p) (some (.Name n np)) line f.env = pure (f.env.blockKind == .function && f.env.kindOf n == some .local && np.line == p.line && !(sc.names.any fun (m, k) => m == n && (k == .local || k == .cell))) := rfl
  rw [e, blockKind_of a, kind_of a]
  rfl
theorem asg_comp {x : Str} {p elt gens sc q ys} (hs : canStore cx x = true) (h : CM l cx ρ elt gens sc q ys) (hp : put ρ x (.own ys) = ρ1) : AS l cx ρ (.Name x p) (.ListComp elt gens sc q) ρ1 := .mk fun pos f s a => by
  subst hp
  cases hb : swapB cx sc q x p with
  | true =>
    rw [exec_Assign_Name_used _ _ _ _ ((swapsWith_form a).trans (by rw [hb]))]
    exact wpAny_bind (wpAny_standAt (wpAny_bind (wpAny_mono (useOwn_ok h hs a) (fun _ s' z => wpAny_pure ⟨rfl, z⟩) fun _ _ z => z)))
  | false =>
    exact wpAny_Assign_Name (comp_fresh h a fun D s' q => wpAny_mono (bindOwn_ok a q hs) (fun _ _ z => ⟨rfl, z⟩) fun _ _ z => z) ((swapsWith_form a).trans (by rw [hb]))
theorem asg_list {x : Str} {p es q as} (hs : canStore cx x = true) (h : EVs l cx ρ es as) (hz : as.length ≤ sizeLine) (hp : put ρ x (.own as) = ρ1) : AS l cx ρ (.Name x p) (.List es q) ρ1 := .mk fun pos f s a => by
  subst hp
  refine wpAny_Assign_Name (wpAny_List_spliced (h.go a .refl fun vs s₁ k _ r => ?_)) rfl
  have hl := r.length
  have q := newSeq (T := "list") r (a.gk k).bd (a.base.k0 k).tab (hl ▸ hz)
  refine ⟨hl ▸ hz, wpAny_mono (bindOwn_ok a ⟨k.trans (K0.push1 (o := { cls := .type "list", data := .seq vs.toArray })), k.size, ?_, q.2.1, vs.toArray, 0, q.2.2.1, q.2.2.2.1, r.move fun b o e1 e2 e3 => ⟨Heap.get?_push_of_some _ e3, fun z => z.elim e2 fun z => Nat.lt_irrefl _ (z ▸ Heap.lt_size e3)⟩⟩ hs) (fun _ _ z => ⟨rfl, z⟩) fun _ _ z => z⟩
  rw [show _ = _ + 1 from Heap.size_push ..]; exact Nat.lt_succ_self _
theorem asg_tup {ts i p vs j q} (h : TupA l cx ρ ts vs ρ1) : AS l cx ρ (.Tuple ts i p) (.Tuple vs j q) ρ1 := .mk fun pos f s a => tup_ok h a
noncomputable def valOk (v : Expr) : Bool := match v with
  | .Tuple .. | .List .. | .ListComp .. | .SetComp .. | .DictComp .. => false
  | _ => true
theorem asg_val {tgt v x} (hg : valOk v = true) (h : EV l cx ρ v x) (hp : AsgT cx ρ tgt x ρ1) : AS l cx ρ tgt v ρ1 := .mk fun pos f s a => by
  have hsw : swapsWithSole [tgt] v pos.line f.env = pure false ∧ swappedStores [tgt] v f.env = pure none ∧ (assignEach [tgt] f.env).map (·.2) = [assign tgt f.env] := by
    cases hp with
    | name => exact ⟨by cases v <;> first | rfl | exact Bool.noConfusion hg, by cases v <;> rfl, rfl⟩
    | tup => exact ⟨by cases v <;> rfl, by cases v <;> first | rfl | exact Bool.noConfusion hg, rfl⟩
  refine wpAny_Assign_stores (h.go a .refl fun u s' k _ r => ?_) hsw.1 hsw.2.1
  rw [hsw.2.2]
  exact wpAny_mono (asg_ok hp (a.k0 k) r) (fun _ s' z => ⟨rfl, .of (z.pre k)⟩) fun _ _ z => z
theorem aug_b {b c : Bool} (h : (b && !c) = true) : b = true ∧ c = false := ⟨(Bool.and_eq_true_iff.mp h).1, (Bool.not_eq_true' _).mp (Bool.and_eq_true_iff.mp h).2⟩
theorem odd_cd' {x : Str} (h : odd x = false) : (x == ("__classdict__" : Str)) = false := (Bool.or_eq_false_iff.mp h).2
theorem odd_dbg' {x : Str} (h : odd x = false) : (x == ("__debug__" : Str)) = false := (Bool.or_eq_false_iff.mp h).1
theorem SS_aug {x : Str} {p op v q a b r} (hf : frzM (namesIn v) ρ = ρ0) (hg : (canStore cx x && !odd x) = true) (ha : ρ0.lookup x = some (.fz a)) (h : EV l cx ρ0 v b) (hr : AugOk op a b r) (hp : put ρ0 x (.fz r) = ρ1) : SS l cx ρ (.AugAssign (.Name x p) op v q) (ρ1, .next) := .frz hf <| .mk fun f s ac => by
  subst hp
  obtain ⟨u, hu, hs⟩ := ac.fr.at_ x _ ha
  exact wpAny_AugAssign_Name (loadName_ok ac.en.kind hu (odd_cd' (aug_b hg).2) (h.go ac .refl fun w s₁ k k' r1 => wpAny_mono (hr.ok (Rd.k0 k' hs) r1) (fun u2 s₂ q2 =>
    bindF_ok (ac.k0 (k.trans q2.1)) (aug_b hg).1 q2.2 fun s' z => .next rfl (.of (z.pre (k.trans q2.1)))) fun _ _ z => z))
theorem SN_augI {x : Str} {p i ip op v q ys j b a r ys'} (hf : frzM (namesIn i ++ namesIn v) ρ = ρ0) (hg : (isSlice i || odd x) = false) (ha : ρ0.lookup x = some (.own ys)) (hi : EV l cx ρ0 i (.int j)) (h : EV l cx ρ0 v b) (hj : 0 ≤ j ∧ j < 2 ^ 62)
    (hy : ys[j.toNat]? = some a) (hr : AugOk op a b r) (hy' : ys.set j.toNat r = ys') (hp : put ρ0 x (.own ys') = ρ1) : SS l cx ρ (.AugAssign (.Subscript (.Name x p) i ip) op v q) (ρ1, .next) := .frz hf <| .mk fun f s ac => by
  subst hp; subst hy'
  have hg := Bool.or_eq_false_iff.mp hg
  obtain ⟨D, vs, n, hv, mD, g, hz, hrl⟩ := own_get ac ha
  refine wpAny_AugAssign_Subscript_any (wpAny_Name (loadName_ok ac.en.kind hv (odd_cd' hg.2) (hi.go ac .refl fun iv s₁ k1 _ r1 => ?_)) (odd_dbg' hg.2)) (fun ov iv new => by cases i <;> first | rfl | exact Bool.noConfusion hg.1)
  refine r1.intE fun t => ?_
  obtain ⟨u, hu, hru⟩ := (hrl.k0 k1).get hy
  rw [Array.getElem?_toList] at hu
  refine wpAny_getItem_list ⟨_, k1.heap _ _ (ac.en.muN D mD).2 (fun h => h) g, rfl, n, rfl⟩ hj.1 (Int.lt_trans hj.2 (by decide)) hu (h.go ac k1 fun bv s₂ k2 k2' r2 => wpAny_mono (hr.ok (hru.k0 k2') r2) (fun rv s₃ q3 => ?_) fun _ _ z => z)
  have k3 := k2.trans q3.1
  exact wpAny_mono (own_set (ac.k0 k3) ha (hv.mono fun b o e hb => k3.heap b o (Mem_ne_TA ac.en hb) (fun h => h) e) hj (List.getElem?_eq_some_iff.mp hy).1 q3.2) (fun _ s₄ z => .next rfl (.of (z.pre k3))) fun _ _ z => z
theorem expr_any {A : Around} {Q : Flow → Shared → Prop} {e : Expr} {pos : Pos} (a : Act l cx f ρ s) (h : wpAny l.M f.A (eval e f.env) (fun _ s' => Q .next s') NoE s) (hc : isCall e = true) : wpAny l.M f.A (exec (.Expr e pos) f.env) Q NoE s := by
  have hint : interactive f.env = false := by unfold interactive; rw [a.en.kind]; rfl
  cases e <;> first | exact Bool.noConfusion hc | exact wpAny_Expr_any h hint rfl
theorem SN_append {x : Str} {xp ap e cp q ys a ys'} (hf : frzM (namesIn e) ρ = ρ0) (hg : (!odd x && !isStar e && (ap.endLine == cp.line)) = true) (ha : ρ0.lookup x = some (.own ys)) (h : EV l cx ρ0 e a) (hz : ys.length < 1000000) (hy' : ys ++ [a] = ys') (hp : put ρ0 x (.own ys') = ρ1) :
    SS l cx ρ (.Expr (.Call (.Attribute (.Name x xp) "append" ap) [e] [] cp) q) (ρ1, .next) := .frz hf <| .mk fun f s ac => by
  subst hp; subst hy'
  simp only [Bool.and_eq_true, Bool.not_eq_true'] at hg
  exact expr_any (A := f.A) ac (ownCall1 ac ha hg.1.1 hg.2 hg.1.2 PySem.F.slot_list_append rfl fun D hD => h.go ac .refl fun v s' k _ r =>
    wpAny_mono (own_append (ac.k0 k) ha (hD.mono fun b o e hb => k.heap b o (Mem_ne_TA ac.en hb) (fun h => h) e) r hz) (fun _ _ z => .next rfl (.of (z.pre k))) fun _ _ z => z) rfl
theorem SN_extend {x : Str} {xp ap e cp q ys zs ys'} (hf : frzM (namesIn e) ρ = ρ0) (hg : (!odd x && !isStar e && (ap.endLine == cp.line)) = true) (ha : ρ0.lookup x = some (.own ys)) (h : EV l cx ρ0 e (.list zs)) (hz : ys.length + zs.length < 1000000) (hy' : ys ++ zs = ys') (hp : put ρ0 x (.own ys') = ρ1) :
    SS l cx ρ (.Expr (.Call (.Attribute (.Name x xp) "extend" ap) [e] [] cp) q) (ρ1, .next) := .frz hf <| .mk fun f s ac => by
  subst hp; subst hy'
  simp only [Bool.and_eq_true, Bool.not_eq_true'] at hg
  exact expr_any (A := f.A) ac (ownCall1 ac ha hg.1.1 hg.2 hg.1.2 PySem.F.slot_list_extend rfl fun D hD => h.go ac .refl fun v s' k _ r =>
    wpAny_mono (own_extend (ac.k0 k) ha (hD.mono fun b o e hb => k.heap b o (Mem_ne_TA ac.en hb) (fun h => h) e) r hz) (fun _ _ z => .next rfl (.of (z.pre k))) fun _ _ z => z) rfl
theorem SN_appop {x y : Str} {xp ap yp bp dp cp q ys zs i j a zs' ys'} (hf : frzM (namesIn i) ρ = ρ0) (hg : (!odd x && !isStar i && (ap.endLine == cp.line) && x != y && !odd y && (bp.endLine == dp.line)) = true) (ha : ρ0.lookup x = some (.own ys)) (hb : ρ0.lookup y = some (.own zs)) (h : EV l cx ρ0 i (.int j)) (hj : 0 ≤ j ∧ j < 2 ^ 62) (hz : ys.length < 1000000)
    (hv : zs[j.toNat]? = some a) (hz' : zs.eraseIdx j.toNat = zs') (hy' : ys ++ [a] = ys') (hp1 : put ρ0 y (.own zs') = ρ1) (hp : put ρ1 x (.own ys') = ρ2) :
    SS l cx ρ (.Expr (.Call (.Attribute (.Name x xp) "append" ap) [.Call (.Attribute (.Name y yp) "pop" bp) [i] [] dp] [] cp) q) (ρ2, .next) := .frz hf <| .mk fun f s ac => by
  subst hp; subst hy'; subst hp1; subst hz'
  simp only [Bool.and_eq_true, Bool.not_eq_true'] at hg
  obtain ⟨⟨⟨⟨⟨g1, g2⟩, g3⟩, g4⟩, g5⟩, g6⟩ := hg
  refine expr_any (A := f.A) ac (ownCall1 ac ha g1 g3 rfl PySem.F.slot_list_append rfl fun D hD => ownCall1 ac hb g5 g6 g2 PySem.F.slot_list_pop rfl fun E hE => h.go ac .refl fun v s' k _ r => ?_) rfl
  have up : ∀ {z q}, Holds f.env s.heap z q → Holds f.env s'.heap z q := fun h => h.mono fun b o e hb => k.heap b o (Mem_ne_TA ac.en hb) (fun h => h) e
  refine wpAny_mono (own_pop (ac.k0 k) hb (up hE) r hj hv) (fun u s₂ q => ?_) fun _ _ z => z
  have hx' : (put ρ0 y (.own (zs.eraseIdx j.toNat))).lookup x = some (.own ys) := by
    rw [lookup_put, if_neg fun e => by rw [e, bne_self_eq_false] at g4; cases g4]; exact ha
  exact wpAny_mono (own_append q.1.2 hx' (q.2.2 _ _ (up hD)) q.2.1 hz) (fun _ _ z => .next rfl (.of (Stored.pre k ⟨q.1.1.trans z.1, z.2⟩))) fun _ _ z => z
end
/-- a loop's turns -/
inductive ForR (l : L) (cx : Cx) (body : List Stmt) (tgt : Expr) : Ro → List AV → Ro × Fl → Prop
  | nil {ρ} : ForR l cx body tgt ρ [] (ρ, .next)
  | cons {ρ ρ1 ρ2 x xs r} : AsgT cx ρ tgt x ρ1 → XS l cx ρ1 body (ρ2, .next) → ForR l cx body tgt ρ2 xs r → ForR l cx body tgt ρ (x :: xs) r
  | ret {ρ ρ1 ρ2 x xs a} : AsgT cx ρ tgt x ρ1 → XS l cx ρ1 body (ρ2, .ret a) → ForR l cx body tgt ρ (x :: xs) (ρ2, .ret a)
section
variable {l : L} {cx : Cx} {f : Fm} {ρ ρ' ρ0 ρ1 ρ2 : Ro} {s s' s₀ : Shared}
/-- a loop under way -/
structure LoopR (l : L) (cx : Cx) (f : Fm) (W : Addr → Prop) (Gs : Nat → Prop) (s₂ : Shared) (O' Mu' : Addr → Prop) (ρ' : Ro) (t : Shared) : Prop where
  act : Act l cx (f.up O' Mu') ρ' t
  k : Kp (fun b => f.Mu b ∨ W b) Gs s₂ t
  mu : ∀ b, Mu' b → f.Mu b ∨ s₂.heap.objs.size ≤ b
  o : ∀ b, O' b → f.O b ∨ W b ∨ s₂.heap.objs.size ≤ b
  st : ∀ b, f.O b → ¬ f.Mu b → O' b
  w : ∀ b, W b → O' b
section
variable {W : Addr → Prop} {Gs : Nat → Prop} {s₂ t t' : Shared} {O' Mu' O2 Mu2 : Addr → Prop} (a : Act l cx f ρ s) (k2 : K0 s s₂) (hWb : ∀ b, W b → s.heap.objs.size ≤ b ∧ b < s₂.heap.objs.size)
include a k2 hWb
theorem LoopR.fin (hG : ∀ g, Gs g → s.gens.size ≤ g) (L : LoopR l cx f W Gs s₂ O' Mu' ρ' t) : StepR f.O f.Mu O' Mu' s t :=
  ⟨Kp.mono (W := fun b => f.Mu b ∨ W b) (G := Gs) (k2.toW.trans L.k) (fun b hb => hb.elim .inl fun q => .inr (get_none (hWb b q).1)) (fun g hg => .inr (hG g hg)), fun b hb => (L.mu b hb).elim .inl fun q => .inr (Nat.le_trans k2.size q),
    fun b hb => (L.o b hb).elim .inl fun q => .inr (q.elim (fun q => (hWb b q).1) (Nat.le_trans k2.size)), L.st⟩
theorem LoopR.notW (L : LoopR l cx f W Gs s₂ O' Mu' ρ' t) : ∀ b, W b → ¬ Mu' b := fun b hb q => (L.mu b q).elim (fun q => a.inO (hWb b hb).1 (a.en.muO b q)) fun z => Nat.lt_irrefl _ (Nat.lt_of_lt_of_le (hWb b hb).2 z)
theorem LoopR.drawn (L : LoopR l cx f W Gs s₂ O' Mu' ρ' t) (k : Kp W Gs t t') : LoopR l cx f W Gs s₂ O' Mu' ρ' t' :=
  ⟨L.act.kpX k fun b hb => ⟨L.w b hb, L.notW a k2 hWb b hb, fun q => a.inO (hWb b hb).1 (q ▸ a.en.muO _ a.en.muL), fun n q => a.inO (hWb b hb).1 (a.en.cells n b q).1, Nat.le_trans a.low (hWb b hb).1⟩,
    L.k.trans (k.mono (fun b hb => .inl (.inr hb)) fun g hg => .inl hg), L.mu, L.o, L.st, L.w⟩
theorem LoopR.step {s4 : Shared} (L : LoopR l cx f W Gs s₂ O' Mu' ρ1 s4) (st : StepR O' Mu' O2 Mu2 s4 t) (a6 : Act l cx (f.up O2 Mu2) ρ2 t) : LoopR l cx f W Gs s₂ O2 Mu2 ρ2 t := by
  have hsz := L.k.size
  refine ⟨a6, ?_, fun b hb => (st.mu b hb).elim (L.mu b) fun q => .inr (Nat.le_trans hsz q), fun b hb => (st.o b hb).elim (L.o b) fun q => .inr (.inr (Nat.le_trans hsz q)), fun b hb hm => st.st b (L.st b hb hm) fun q => (L.mu b q).elim hm fun z => ?_, fun b hb => st.st b (L.w b hb) (L.notW a k2 hWb b hb)⟩
  · exact Kp.mono (W := fun b => (f.Mu b ∨ W b) ∨ s₂.heap.objs.size ≤ b) (G := Gs) ((L.k.mono (fun b hb => .inl (.inl hb)) fun g h => .inl h).trans (st.k.mono (fun b hb => .inl ((L.mu b hb).elim (fun q => .inl (.inl q)) .inr)) fun g h => h.elim))
      (fun b hb => hb.elim .inl fun q => .inr (get_none q)) fun g h => .inl h
  · exact Nat.lt_irrefl _ (Nat.lt_of_lt_of_le (Nat.lt_of_lt_of_le (a.en.bound b hb) k2.size) z)
end
theorem drop_more {α : Type} {xs zs : List α} {x : α} {i : Nat} (e : xs.drop i = x :: zs) : i + 1 ≤ xs.length ∧ xs.drop (i + 1) = zs :=
  ⟨Nat.lt_of_not_le fun h => (nomatch (List.drop_eq_nil_iff.mpr h).symm.trans e), by rw [← List.tail_drop, e]; rfl⟩
/-- a loop's state -/
noncomputable def LInv (l : L) (cx : Cx) (f : Fm) (body : List Stmt) (tgt : Expr) (W : Addr → Prop) (Gs : Nat → Prop) (s₂ : Shared) (St : Nat → Shared → Prop) (xs : List AV) (r : Ro × Fl) (n : Nat) (t : Shared) : Prop :=
  ∃ i O' Mu' ρ' ys, i ≤ xs.length ∧ xs.drop i = ys ∧ n = ys.length ∧ ForR l cx body tgt ρ' ys r ∧ LoopR l cx f W Gs s₂ O' Mu' ρ' t ∧ St i t
theorem SS_for {tgt iter body p ys r} (hf : frzM (namesIn iter) ρ = ρ0) (hi : IT l cx ρ0 tgt iter ys) (h : ForR l cx body tgt ρ0 ys r) : SS l cx ρ (.For tgt iter body [] p) r := .frz hf <| .mk fun f s a => by
  refine wpAny_For (wpAny_mono (hi.ev f s a) (fun x s₁ q1 => wpAny_mono q1 (fun it s₂ q2 => ?_) fun _ _ z => z) fun _ _ z => z) (noFold hi.ns)
  obtain ⟨k2, W, Gs, St, hW, hG, hI⟩ := q2
  have hWb : ∀ b, W b → s.heap.objs.size ≤ b ∧ b < s₂.heap.objs.size := fun b hb => ⟨hW b hb, hI.low b hb⟩
  refine codeAny_forLoop_any (LInv l cx f body tgt W Gs s₂ St ys r) (fun n t hInv => ?_) ys.length
    ⟨0, _, _, ρ0, ys, Nat.zero_le _, rfl, rfl, h, ⟨a.addO k2 hWb, Kp.refl, fun b h => .inl h, fun b h => h.elim .inl fun q => .inr (.inl q), fun b h _ => .inl h, fun b h => .inr h⟩, hI.start⟩
  obtain ⟨i, O', Mu', ρ', zs, hi', e, rfl, hr, L, hSt⟩ := hInv
  have step : ∀ {x zs ρ1 r1} {Q : Flow → Shared → Prop} {E : Value → Shared → Prop}, ys.drop i = x :: zs → AsgT cx ρ' tgt x ρ1 → XS l cx ρ1 body r1 →
      (∀ c O2 Mu2 s6, LoopR l cx f W Gs s₂ O2 Mu2 r1.1 s6 → St (i + 1) s6 → FlowOk O2 r1.2 c s6 → Q c s6) →
      wpAny l.M f.A (pyNext it) (fun r s3 => ∃ v, r = some v ∧ wpAny l.M f.A (letOwnedTupleGo tgt it v) (fun _ s4 => wpAny l.M f.A (assign tgt f.env v) (fun _ s5 => wpAny l.M f.A (execs body f.env) Q E s5) E s4) E s3) E t := fun e h1 h2 n => by
    have hx : ys[i]? = some _ := (List.getElem?_drop (i := i) (j := 0)).symm.trans (by rw [e]; rfl)
    refine wpAny_mono (hI.item i _ t hx hSt L.act.base L.k.size) (fun rr s3 q3 => ?_) fun _ _ z => z.elim
    obtain ⟨v, rfl, q3⟩ := q3
    refine ⟨v, rfl, wpAny_mono q3 (fun _ s4 q4 => ?_) fun _ _ z => z.elim⟩
    obtain ⟨hrd, hSt', hk⟩ := q4
    have L4 := L.drawn a k2 hWb hk
    refine wpAny_mono (asg_ok (f := f.up O' Mu') h1 L4.act (hrd.up fun b hb => (L.o b hb).elim .inl fun q => q.elim (fun q => .inr (.inl q)) fun q => .inr (.inr ⟨q, L.act.en.bound b hb⟩))) (fun _ s5 q5 => ?_) fun _ _ z => z.elim
    refine wpAny_mono (h2.ok (f.up O' Mu') s5 q5.2) (fun c s6 q6 => ?_) fun _ _ z => z.elim
    obtain ⟨O2, Mu2, st, a6, hfl⟩ := q6
    have st2 : StepR O' Mu' O2 Mu2 s4 s6 := (StepR.of q5.1).trans st L4.act.en.bound
    exact n c O2 Mu2 s6 (L4.step a k2 hWb st2 a6) (hI.stay (i + 1) s4 s6 hSt' (Fut.of st2.k (fun b hb => (L4.mu b hb).elim (fun q => .inl (a.en.muO b q)) .inr) fun g h => h.elim)) hfl
  cases hr with
  | nil =>
    have hle : ys.length ≤ i := List.drop_eq_nil_iff.mp e
    refine wpAny_mono (hI.done t ?_ L.act.base) (fun rr s3 q3 => ?_) fun _ _ z => z.elim
    · exact Nat.le_antisymm hi' hle ▸ hSt
    · obtain ⟨rfl, k3⟩ := q3
      have L3 := L.drawn a k2 hWb k3
      exact wpAny_execs_nil ⟨O', Mu', L3.fin a k2 hWb hG, L3.act, rfl⟩
  | cons h1 h2 h3 =>
    refine wpAny_mono (step e h1 h2 fun c O2 Mu2 s6 L6 hS hfl => ?_) (fun r s3 q => by obtain ⟨v, rfl, q⟩ := q; exact q) fun _ _ z => z
    cases hfl
    exact ⟨_, Nat.lt_succ_self _, i + 1, O2, Mu2, _, _, (drop_more e).1, (drop_more e).2, rfl, h3, L6, hS⟩
  | ret h1 h2 =>
    refine wpAny_mono (step e h1 h2 fun c O2 Mu2 s6 L6 hS hfl => ?_) (fun r s3 q => by obtain ⟨v, rfl, q⟩ := q; exact q) fun _ _ z => z
    obtain ⟨u, rfl, hu⟩ := hfl
    exact ⟨O2, Mu2, L6.fin a k2 hWb hG, L6.act, u, rfl, hu⟩
theorem for_nil {body tgt} : ForR l cx body tgt ρ [] (ρ, .next) := .nil
theorem for_cons {body tgt x ys r} (ha : AsgT cx ρ tgt x ρ1) (hx : XS l cx ρ1 body (ρ2, .next)) (h : ForR l cx body tgt ρ2 ys r) : ForR l cx body tgt ρ (x :: ys) r := .cons ha hx h
theorem for_ret {body tgt x ys a} (ha : AsgT cx ρ tgt x ρ1) (hx : XS l cx ρ1 body (ρ2, .ret a)) : ForR l cx body tgt ρ (x :: ys) (ρ2, .ret a) := .ret ha hx
theorem ret_to {b : List Stmt} {r r' : AV} (h : XS l cx ρ b (ρ', .ret r)) (e : r = r') : ∃ ρ', XS l cx ρ b (ρ', .ret r') := ⟨ρ', e ▸ h⟩
theorem catN_cons {F : AV → List AV → Prop} {x xs a b c} (h1 : F x a) (h2 : Cat F xs b) (hc : a ++ b = c) : Cat F (x :: xs) c := hc ▸ .cons h1 h2
theorem cat_nil {F : AV → List AV → Prop} : Cat F [] [] := .nil
theorem cat_map {α : Type} {F : AV → List AV → Prop} {u : α → AV} {g : α → List AV} : ∀ {l : List α}, (∀ x ∈ l, F (u x) (g x)) → Cat F (l.map u) (l.flatMap g)
  | [], _ => .nil
  | x :: l, h => by
    rw [List.map_cons, List.flatMap_cons]
    exact .cons (h x List.mem_cons_self) (cat_map fun y hy => h y (List.mem_cons_of_mem _ hy))
theorem turn1_all {tgt elt x r} (hf : freshT ρ tgt = true) (ha : AsgT cx ρ tgt x ρ1) (he : EV l cx ρ1 elt r) : T1 l cx ρ tgt [] elt x [r] := .yes hf ha .nil he
theorem turn1_if {tgt elt x r c} {b : Bool} (hf : freshT ρ tgt = true) (ha : AsgT cx ρ tgt x ρ1) (ht : TV l cx ρ1 c b) (he : b = true → EV l cx ρ1 elt r) : T1 l cx ρ tgt [c] elt x (if b then [r] else []) := by
  cases b
  · exact .no hf ha (.no ht)
  · exact .yes hf ha (.yes ht .nil) (he rfl)
theorem turn2_all {tgt tgt2 iter2 ifs2 elt x ys zs} (hf : freshT ρ tgt = true) (ha : AsgT cx ρ tgt x ρ1) (hi : IT l cx ρ1 tgt2 iter2 ys) (h : Cat (T1 l cx ρ1 tgt2 ifs2 elt) ys zs) : T2 l cx ρ tgt [] tgt2 iter2 ifs2 elt x zs := .yes hf ha .nil hi h
end
theorem ofString_inj {a b : String} : (Str.ofString a = Str.ofString b) = (a = b) := propext ⟨fun h => by
  rw [Str.ofString_eq_toList, Str.ofString_eq_toList] at h
  have h2 : (a.toList.map Char.toNat) = (b.toList.map Char.toNat) := congrArg (fun s : Str => s.cps.toList) h
  exact String.toList_inj.mp ((List.map_inj_right (f := Char.toNat) fun x y hxy => Char.toNat_inj.mp hxy).mp h2), congrArg _⟩
theorem ofString_beq {a b : String} : (Str.ofString a == Str.ofString b) = (a == b) := Bool.eq_iff_iff.mpr (beq_iff_eq.trans ((iff_of_eq ofString_inj).trans beq_iff_eq.symm))
theorem ofString_bne {a b : String} : (Str.ofString a != Str.ofString b) = (a != b) := congrArg not ofString_beq
theorem look_hit {α : Type} {x : Str} {v : α} {r : List (Str × α)} : List.lookup x ((x, v) :: r) = some v := by rw [List.lookup_cons, beq_self_eq_true]
theorem look_miss {α : Type} {x y : String} {v : α} {r : List (Str × α)} {s : Option α} (h : (x == y) = false) (h2 : List.lookup (Str.ofString x) r = s) : List.lookup (Str.ofString x) ((Str.ofString y, v) :: r) = s := by
  rw [List.lookup_cons, ofString_beq, h]; exact h2
theorem puts_nil {x : Str} {s : Sl} : put [] x s = [(x, s)] := rfl
theorem puts_hit {x : Str} {t s : Sl} {r : Ro} : put ((x, t) :: r) x s = (x, s) :: r := by unfold put; rw [beq_self_eq_true]; rfl
theorem puts_miss {x y : String} {t s : Sl} {r r' : Ro} (h : (y == x) = false) (h2 : put r (Str.ofString x) s = r') : put ((Str.ofString y, t) :: r) (Str.ofString x) s = (Str.ofString y, t) :: r' := by
  rw [put, ofString_beq, h, h2]; rfl
theorem bindL_out {k : Str → Option NameKind} {x : Str} : ∀ {l : List (Str × Value)} {m : Str → Option Value}, x ∉ l.map (·.1) → bindL k l m x = m x
  | [], _, _ => rfl
  | (n, v) :: r, m, h => by
    have h := not_or.mp fun q => h (List.mem_cons.mpr q)
    refine (bindL_out h.2).trans ?_
    by_cases q : k n = some .local
    · rw [if_pos q]; exact if_neg h.1
    · rw [if_neg q]
theorem bindC_out {k : Str → Option NameKind} {x : Str} : ∀ {l : List (Str × Value)} {m : Str → Option Value}, x ∉ l.map (·.1) → bindC k l m x = m x
  | [], _, _ => rfl
  | (n, v) :: r, m, h => by
    have h := not_or.mp fun q => h (List.mem_cons.mpr q)
    refine (bindC_out h.2).trans ?_
    by_cases q : k n = some .local
    · rw [if_pos q]
    · rw [if_neg q]; exact if_neg h.1
theorem bindL_at {k : Str → Option NameKind} {x : Str} {v : Value} (hk : k x = some .local) : ∀ {l : List (Str × Value)} {m : Str → Option Value}, (l.map (·.1)).Nodup → l.lookup x = some v → bindL k l m x = some v
  | [], _, _, h => nomatch h
  | (n, u) :: r, m, hn, h => by
    have hn := List.nodup_cons.mp hn
    rw [List.lookup_cons] at h
    by_cases e : x = n
    · subst e
      rw [beq_self_eq_true] at h
      cases h
      exact (bindL_out hn.1).trans (by rw [if_pos hk]; exact if_pos rfl)
    · rw [beq_eq_false_iff_ne.mpr e] at h
      exact bindL_at (l := r) hk hn.2 h
theorem bindC_at {k : Str → Option NameKind} {x : Str} {v : Value} (hk : k x ≠ some .local) : ∀ {l : List (Str × Value)} {m : Str → Option Value}, (l.map (·.1)).Nodup → l.lookup x = some v → bindC k l m x = some v
  | [], _, _, h => nomatch h
  | (n, u) :: r, m, hn, h => by
    have hn := List.nodup_cons.mp hn
    rw [List.lookup_cons] at h
    by_cases e : x = n
    · subst e
      rw [beq_self_eq_true] at h
      cases h
      exact (bindC_out hn.1).trans (by rw [if_neg hk]; exact if_pos rfl)
    · rw [beq_eq_false_iff_ne.mpr e] at h
      exact bindC_at (l := r) hk hn.2 h
/-- a bound name -/
inductive Given (h : Heap) (O : Addr → Prop) (names : List Str) (vs : List Value) (x : Str) : Sl → Prop
  | mk {av v} : (names.zip vs).lookup x = some v → Rd h O av v → Given h O names vs x (.fz av)
theorem zip_look {h : Heap} {O : Addr → Prop} {x : Str} {sl : Sl} : ∀ {names : List Str} {as : List AV} {vs : List Value}, RdL h O as vs → (names.zip (as.map Sl.fz)).lookup x = some sl → Given h O names vs x sl
  | [], _, _, _, e => nomatch e
  | n :: names, [], _, _, e => nomatch e
  | n :: names, a :: as, _, r, e => by
    refine r.consE fun v vs h1 h2 => ?_
    rw [List.map_cons, List.zip_cons_cons, List.lookup_cons] at e
    cases q : x == n with
    | true =>
      rw [q] at e
      cases e
      exact .mk (by rw [List.zip_cons_cons, List.lookup_cons, q]) h1
    | false =>
      rw [q] at e
      obtain ⟨z, y⟩ := zip_look h2 e
      exact .mk (by rw [List.zip_cons_cons, List.lookup_cons, q]; exact z) y
/-- what the walk needs to know of a function -/
structure FnIs (h₁ : Heap) (a : Addr) (fd : FuncData) (body : List Stmt) (names : List Str) (gn : Bool) : Prop where
  ta : a ≠ TA
  obj : ∃ o, h₁.get? a = some o ∧ o.data = .func fd
  code : ∃ c o vs t, fd.code = .ref c ∧ c ≠ TA ∧ h₁.get? c = some o ∧ o.data = .fields vs ∧ vs[1]? = some (.str fd.qualname t)
  body : fd.body = .stmts body
  clo : fd.closure = []
  glob : fd.globals = mainGlobals
  bi : fd.builtins = builtinsNs
  scope : okScope fd.scope = true
  nofree : fd.scope.names.all (fun x => x.2 != .free) = true
  nodup : names.Nodup
  params : names.all (fun n => fd.scope.names.lookup n == some .local || fd.scope.names.lookup n == some .cell) = true
  bind : ∀ vs : List Value, vs.length = names.length → bindArgs fd ⟨vs, []⟩ = pure (names.zip vs)
  co : fd.scope.isCoroutine = false
  gen : fd.scope.isGenerator = gn
noncomputable abbrev fnCx (fd : FuncData) : Cx := ⟨fd.scope, ownOf fd.scope⟩
/-- one call deeper -/
@[reducible] noncomputable def L.up (l : L) : L := ⟨l.prog, l.w, l.h, l.d + 1⟩
section
variable {l : L} {A : Around} {O : Addr → Prop} {s : Shared}
theorem call_cells_tk {R : Result → Shared → Prop} {a : Addr} {o : Obj} {fd : FuncData} {body : List Stmt} {vals : List Value} {binds : List (Str × Value)}
    (hroom : A.depth < recursionLimit) (ho : s.heap.get? a = some o) (hdata : o.data = .func fd) (hlim : s.heap.NoLimit) (hcd : s.heap.CodeRec fd.code fd.qualname)
    (hbody : fd.body = .stmts body) (hbind : bindArgs fd ⟨vals, []⟩ = pure binds) (hclo : fd.closure = [])
    (hkind : ∀ x ∈ binds, fd.scope.names.lookup x.1 = some .local ∨ (fd.scope.names.lookup x.1 = some .cell ∧ ((cellsFrom (s.heap.objs.size + 1) fd.scope.names []).lookup x.1).isSome = true))
    (h : ∀ s₁, InCallC s (callEnvC fd s.heap.objs.size a).locals (bindL (callEnvC fd s.heap.objs.size a).kindOf binds fun _ => none) (callEnvC fd s.heap.objs.size a).cells
        (bindC (callEnvC fd s.heap.objs.size a).kindOf binds fun _ => none) s₁ → (0 < s.toks → 0 < s₁.toks) →
      wpAny l.M (A.deeper (callEnvC fd s.heap.objs.size a)) (execs body (callEnvC fd s.heap.objs.size a)) (fun f s' => R (.ok (.ret (match f with | .ret v => v | _ => .none))) s') NoE s₁)
    (hco : fd.scope.isCoroutine = false) (hgen : fd.scope.isGenerator = false) (hk : fd.scope.kind = .function) :
    codeAny l.M A (.call (.ref a) ⟨vals, []⟩) R s := by
  refine codeAny_call_function hroom ho hdata hco hgen hbody hcd ?_
  rw [hbind, hclo]
  refine wpAny_pure (with_tk (wpAny_newFunctionEnv_cells hk hkind fun env he s' x htk => ?_))
  subst he
  exact ⟨hlim.keeps x.toInCall.keep, codeAny_func (wpAny_mono (h s' x htk) (fun _ _ z => z) fun _ _ z => z.elim)⟩
theorem Go.down (g : Go l.up A O s) (fd : FuncData) (a b : Addr) : (A.deeper (callEnvC fd b a)).depth + l.d < recursionLimit ∧ (A.deeper (callEnvC fd b a)).units + (100 + 20 * l.d) < cLine := by
  obtain ⟨_, h1, h2, _⟩ := g
  exact ⟨by show A.depth + 1 + l.d < _; rw [Nat.add_assoc, Nat.add_comm 1]; exact h1, Nat.lt_of_le_of_lt (by show A.units + 3 + (100 + 20 * l.d) ≤ A.units + (100 + 20 * (l.d + 1)); omega) h2⟩
/-- a call's frame, in any state that has kept it -/
theorem frame_act {gn : Bool} {A' : Around} {a : Addr} {fd : FuncData} {body : List Stmt} {names : List Str} {as : List AV} {vs : List Value} (F : FnIs l.h a fd body names gn) (hlen : names.length = as.length) (hB : Base l.h s.heap) (hvs : RdL s.heap O as vs) {s₁ t : Shared} {O'' : Addr → Prop}
    (x : InCallC s (callEnvC fd s.heap.objs.size a).locals (bindL (callEnvC fd s.heap.objs.size a).kindOf (names.zip vs) fun _ => none) (callEnvC fd s.heap.objs.size a).cells (bindC (callEnvC fd s.heap.objs.size a).kindOf (names.zip vs) fun _ => none) s₁)
    (kF : ∀ b o, s.heap.objs.size ≤ b → b < s₁.heap.objs.size → s₁.heap.get? b = some o → t.heap.get? b = some o) (kO : ∀ b o, b ≠ TA → ¬ O b → s.heap.get? b = some o → t.heap.get? b = some o)
    (hBt : Base l.h t.heap) (htk : 0 < t.toks) (o1 : ∀ b, s.heap.objs.size ≤ b ∧ b < s₁.heap.objs.size → O'' b) (o2 : ∀ b, O'' b → b < t.heap.objs.size) (o3 : ∀ b, O'' b → O b ∨ s.heap.objs.size ≤ b)
    (hh : A'.handled = none) (hdep : A'.depth + l.d < recursionLimit) (hu : A'.units + (100 + 20 * l.d) < cLine) :
    Act l (fnCx fd) ⟨A', callEnvC fd s.heap.objs.size a, O'', fun b => s.heap.objs.size ≤ b ∧ b < s₁.heap.objs.size⟩ (names.zip (as.map .fz)) t := by
  have hvl := hvs.length
  have hsc := F.scope
  unfold okScope at hsc
  rw [Bool.and_eq_true, List.all_eq_true] at hsc
  have hkind := eq_of_beq hsc.1
  have dist : ∀ n k, (n, k) ∈ fd.scope.names → fd.scope.names.lookup n = some k := fun n k h => eq_of_beq (hsc.2 (n, k) h)
  have hT := TA_lt hB.tab
  have hLlt : s.heap.objs.size < s₁.heap.objs.size := x.toInCall.ns.lt
  have nsT : t.heap.Ns s.heap.objs.size _ := Heap.Ns.get x.toInCall.ns fun o e => kF _ o (Nat.le_refl _) hLlt e
  have hcells : ∀ n c, (callEnvC fd s.heap.objs.size a).cells.lookup n = some c → @LT.lt Nat _ s.heap.objs.size c ∧ c < s₁.heap.objs.size ∧ t.heap.IsCell c (bindC (callEnvC fd s.heap.objs.size a).kindOf (names.zip vs) (fun _ => none) n) := fun n c hc =>
    let h1 := x.above n c (mem_of_lookup hc); let ⟨o, ho, hd⟩ := x.cell n c hc; ⟨h1, Heap.lt_size ho, o, kF c o (Nat.le_of_lt h1) (Heap.lt_size ho) ho, hd⟩
  have hnd : ((names.zip vs).map (·.1)).Nodup := by
    rw [List.map_fst_zip (by rw [hvl, hlen]; exact Nat.le_refl _)]
    exact F.nodup
  have hup : ∀ {av v}, Rd s.heap O av v → Rd t.heap O'' av v := fun r => r.move fun b o e1 e2 e3 =>
    ⟨kO b o e1 e2 e3, fun q => (o3 b q).elim e2 fun z => Nat.lt_irrefl _ (Nat.lt_of_lt_of_le (Heap.lt_size e3) z)⟩
  refine ⟨rfl, hh, hdep, hu, htk, hBt, ⟨hkind, F.glob, F.bi, ⟨_, nsT⟩, ⟨Nat.le_refl _, hLlt⟩, fun n c hc => ?_, fun n c _ hc => ?_, fun n hn => ?_, fun n n' c hc hc' => name_of_addr x.apart (mem_of_lookup hc) (mem_of_lookup hc'), fun n hn => ?_, o1,
    fun b hb => ⟨Nat.le_trans hB.size hb.1, Nat.ne_of_gt (Nat.lt_of_lt_of_le hT hb.1)⟩, o2⟩, ⟨fun n sl hn => ?_, fun x y xs ys v _ hx _ _ _ => (nomatch zip_look hvs hx)⟩⟩
  · obtain ⟨h1, h2, h3⟩ := hcells n c hc
    exact ⟨o1 c ⟨Nat.le_of_lt h1, h2⟩, Nat.ne_of_gt (Nat.lt_of_lt_of_le hT (Nat.le_of_lt h1)), Nat.ne_of_gt h1, _, h3⟩
  · exact let ⟨h1, h2, _⟩ := hcells n c hc; ⟨Nat.le_of_lt h1, h2⟩
  · exact ⟨dist _ _ (mem_ownOf hn), cellsFrom_has (.inl (mem_ownOf hn))⟩
  · exact hn.elim (fun hn => cellsFrom_has (.inl (lookup_mem hn))) fun hn => absurd (show (NameKind.free != NameKind.free) = true from List.all_eq_true.mp F.nofree _ (lookup_mem hn)) (by decide)
  · obtain ⟨hl, hr⟩ := zip_look hvs hn
    refine ⟨_, ?_, hup hr⟩
    rcases Bool.or_eq_true_iff.mp (List.all_eq_true.mp F.params n (List.of_mem_zip (mem_of_lookup hl)).1) with h | h
    · exact .inl ⟨eq_of_beq h, _, nsT, bindL_at (eq_of_beq h) hnd hl⟩
    · have h := eq_of_beq h
      obtain ⟨c, hc⟩ := Option.isSome_iff_exists.mp (cellsFrom_has (k0 := s.heap.objs.size + 1) (acc := []) (.inl (lookup_mem h)))
      refine .inr ⟨.inl h, c, hc, ?_⟩
      have := (hcells n c hc).2.2
      rwa [bindC_at (show (callEnvC fd s.heap.objs.size a).kindOf n ≠ some .local from fun q => nomatch h.symm.trans q) hnd hl] at this
theorem FnIs.kinds {gn : Bool} {a : Addr} {fd : FuncData} {body : List Stmt} {names : List Str} {vs : List Value} {k0 : Nat} (F : FnIs l.h a fd body names gn) : ∀ x ∈ names.zip vs, fd.scope.names.lookup x.1 = some .local ∨ (fd.scope.names.lookup x.1 = some .cell ∧ ((cellsFrom k0 fd.scope.names []).lookup x.1).isSome = true) := fun x hx =>
  (Bool.or_eq_true_iff.mp (List.all_eq_true.mp F.params x.1 (List.of_mem_zip hx).1)).elim (fun h => .inl (eq_of_beq h)) fun h => .inr ⟨eq_of_beq h, cellsFrom_has (.inl (lookup_mem (eq_of_beq h)))⟩
theorem lim_of {h : Heap} (hlim : l.h.NoLimit) (B : Base l.h h) : h.NoLimit := hlim.elim fun mc z => ⟨mc, ns_keep B (by decide) z.1, z.2⟩
/-- a call's frame, as it opens -/
structure Opened (l : L) (fd : FuncData) (a : Addr) (O : Addr → Prop) (s : Shared) (ρ : Ro) (f : Fm) (s₁ : Shared) : Prop where
  env : f.env = callEnvC fd s.heap.objs.size a
  act : Act l (fnCx fd) f ρ s₁
  k : K0 s s₁
  o : ∀ b, O b → f.O b
  mu : ∀ b, f.Mu b → s.heap.objs.size ≤ b
theorem Opened.k0 {fd a ρ f s₁ s'} (op : Opened l fd a O s ρ f s₁) (k : Kp f.Mu (fun _ => False) s₁ s') : K0 s s' :=
  Kp.mono (W := f.Mu) (G := fun _ => False) (op.k.toW.trans k) (fun b hb => .inr (get_none (op.mu b hb))) fun _ h => h.elim
noncomputable def flowV : Flow → Value
  | .ret v => v
  | _ => .none
theorem fn_enter {a : Addr} {fd : FuncData} {body : List Stmt} {names : List Str} {as : List AV} {vs : List Value} {Q : Value → Shared → Prop} (F : FnIs l.h a fd body names false) (hlim : l.h.NoLimit) (hlen : names.length = as.length) (g : Go l.up A O s) (hvs : RdL s.heap O as vs)
    (h : ∀ f s₁, Opened l fd a O s (names.zip (as.map .fz)) f s₁ → wpAny l.M f.A (execs body f.env) (fun c s' => Q (flowV c) s') NoE s₁) : wpAny l.M A (call (.ref a) vs) Q NoE s := by
  obtain ⟨o, hg, hd⟩ := F.obj
  obtain ⟨c, oc, fs, t, hc1, hc2, hc3, hc4, hc5⟩ := F.code
  have hsc := F.scope
  unfold okScope at hsc
  refine wpAny_call (call_cells_tk g.dp (g.base.keep _ _ F.ta hg) hd (lim_of hlim g.base) ⟨c, oc, fs, t, hc1, g.base.keep _ _ hc2 hc3, hc4, hc5⟩ F.body (F.bind vs (by rw [hvs.length, hlen])) F.clo F.kinds (fun s₁ x htk => ?_) F.co F.gen (eq_of_beq (Bool.and_eq_true_iff.mp hsc).1))
  obtain ⟨⟨h', tk, rfl⟩, hns, hkeep, _⟩ := x.toInCall
  have hLlt : s.heap.objs.size < h'.objs.size := hns.lt
  have k1 : K0 s { s with heap := h', toks := tk } := K0.keep hkeep (Nat.le_of_lt hLlt) htk
  have act := frame_act (A' := A.deeper (callEnvC fd s.heap.objs.size a)) (O'' := fun b => O b ∨ (s.heap.objs.size ≤ b ∧ b < h'.objs.size)) F hlen g.base hvs x (fun _ _ _ _ e => e) (fun b o _ _ e => hkeep b o e) (g.base.k0 k1) (htk g.tk) (fun b h => .inr h) (fun b h => h.elim (fun q => Nat.lt_trans (g.bd b q) hLlt) fun q => q.2) (fun b h => h.elim .inl fun q => .inr q.1) g.hh (g.down fd a _).1 (g.down fd a _).2
  exact h _ _ ⟨rfl, act, k1, fun b h => .inl h, fun b h => h.1⟩
theorem fn_ok {a : Addr} {fd : FuncData} {body : List Stmt} {names : List Str} {as : List AV} {r : AV} {ρ' : Ro} (F : FnIs l.h a fd body names false) (hlim : l.h.NoLimit) (hlen : names.length = as.length)
    (hrun : XS l (fnCx fd) (names.zip (as.map .fz)) body (ρ', .ret r)) : FnOk l.up (.ref a) as r := fun A s O vs g hvs =>
  fn_enter (l := l) F hlim hlen g hvs fun f s₁ op => wpAny_mono (hrun.ok f s₁ op.act) (fun c s' q => by
    obtain ⟨O', Mu', st, a', v, rfl, hr⟩ := q
    exact ⟨op.k0 st.k, hr.up fun b hb => st.st b (op.o b hb) fun z => Nat.lt_irrefl _ (Nat.lt_of_lt_of_le (g.bd b hb) (op.mu b z))⟩) fun _ _ z => z
theorem FnOk.up {fv as r} (h : FnOk l fv as r) : FnOk l.up fv as r := fun A s O vs g hvs => h A s O vs ⟨g.hh, Nat.lt_of_succ_lt g.dep, Nat.lt_of_le_of_lt (Nat.add_le_add_left (Nat.add_le_add_left (Nat.mul_le_mul_left 20 (Nat.le_succ _)) 100) _) g.uni, g.tk, g.base, g.bd⟩ hvs
theorem FN.up {g as r} (h : FN l g as r) : FN l.up g as r := let ⟨fv, a, b, c⟩ := h; ⟨fv, a, b, c.up⟩
theorem MT.up {m a as r} (h : MT l m a as r) : MT l.up m a as r := let ⟨T, id, a, b, c, d, e⟩ := h; ⟨T, id, a, b, c, d, e.up⟩
end
noncomputable def maxF (x y : UInt64) : UInt64 := if (Float64.cmp x y == some .lt) = true then y else x
noncomputable def minF (x y : UInt64) : UInt64 := if (Float64.cmp y x == some .lt) = true then y else x
noncomputable def maxI (a b : Int) : Int := if b > a then b else a
noncomputable def minI (a b : Int) : Int := if b < a then b else a
section
variable {l : L} {O : Addr → Prop} {s : Shared}
theorem Ends.intK {i : Int} {t : Tok} {h' : Heap} {tk : Nat} (hk : ∀ b o, s.heap.get? b = some o → h'.get? b = some o) (hs : s.heap.objs.size ≤ h'.objs.size) (htk : 0 < s.toks → 0 < tk) : Ends O s (.int i) (.int i t) { s with heap := h', toks := tk } := ⟨K0.keep hk hs htk, rd_int.mpr ⟨t, rfl⟩⟩
theorem Ends.fltK {i : UInt64} {t : Tok} {h' : Heap} {tk : Nat} (hk : ∀ b o, s.heap.get? b = some o → h'.get? b = some o) (hs : s.heap.objs.size ≤ h'.objs.size) (htk : 0 < s.toks → 0 < tk) : Ends O s (.flt i) (.float i t) { s with heap := h', toks := tk } := ⟨K0.keep hk hs htk, rd_flt.mpr ⟨t, rfl⟩⟩
theorem line_lt {n : Nat} (h : n ≤ sizeLine) : n < 2 ^ 63 := Nat.lt_of_le_of_lt h (by rw [sizeLine_eq]; decide)
theorem fn_len_list {xs : List AV} : FnOk l (.builtin "len") [.list xs] (.int xs.length) := fun A s O vs g hvs => hvs.oneE fun v r => r.listE fun a ws n q =>
  by
  refine Calls.call_len_list q.isL (by have := line_lt q.2.2.2.1; exact Int.ofNat_lt.mpr this) ?_
  rw [q.len]
  exact .intT fun _ => Nat.succ_pos _
theorem fn_len_str {x : Str} : FnOk l (.builtin "len") [.str x] (.int x.length) := fun A s O vs g hvs => hvs.oneE fun v r => r.strE fun t q => PyProof.Rows.len_str (Int.not_le.mpr (Int.ofNat_lt.mpr (line_lt q))) (.intT fun _ => Nat.succ_pos _)
theorem fn_abs {i : Int} : FnOk l (.builtin "abs") [.int i] (.int (if i < 0 then -i else i)) := fun A s O vs g hvs => hvs.oneE fun v r => r.intE fun t => with_tk (call_abs_int fun u tk htk => .intT htk)
theorem fn_round {x : UInt64} (hx : Float64.isFinite x = true) (hn : Float64.isNaN x = false) (hi : Float64.isInf x = false) : FnOk l (.builtin "round") [.flt x] (.int (Flt.toInt Float64.nearestOf x)) := fun A s O vs g hvs => hvs.oneE fun v r => r.fltE fun t =>
  Flt.call_round_float g.hh (fun h => nomatch hn.symm.trans h) (fun h => nomatch hi.symm.trans h) fun _ => .int
theorem ite_ends {c : Prop} [Decidable c] {a b : Int} {t u : Tok} {h' : Heap} {tk : Nat} (hk : ∀ b o, s.heap.get? b = some o → h'.get? b = some o) (hs : s.heap.objs.size ≤ h'.objs.size) (htk : 0 < s.toks → 0 < tk) : Ends O s (.int (if c then a else b)) (if c then .int a t else .int b u) { s with heap := h', toks := tk } := by
  by_cases h : c
  · rw [if_pos h, if_pos h]; exact .intK hk hs htk
  · rw [if_neg h, if_neg h]; exact .intK hk hs htk
theorem fn_max2 {a b : Int} : FnOk l (.builtin "max") [.int a, .int b] (.int (maxI a b)) := fun A s O vs g hvs => hvs.twoE fun v u r r' => r.intE fun t => r'.intE fun t2 => by
  exact with_tk (with_size (max_two_ints g.hh fun h' tk hk hs htk => ite_ends hk hs htk))
theorem fn_min2 {a b : Int} : FnOk l (.builtin "min") [.int a, .int b] (.int (minI a b)) := fun A s O vs g hvs => hvs.twoE fun v u r r' => r.intE fun t => r'.intE fun t2 => by
  exact with_tk (with_size (min_two_ints g.hh fun h' tk hk hs htk => ite_ends hk hs htk))
theorem fn_min3 {a b c : Int} : FnOk l (.builtin "min") [.int a, .int b, .int c] (.int (minI (minI a b) c)) := fun A s O vs g hvs => hvs.threeE fun v u w r r' r'' => r.intE fun t => r'.intE fun t2 => r''.intE fun t3 => by
  refine with_tk (with_size (min_three_ints g.hh fun h' tk hk hs htk => ?_))
  unfold minI
  by_cases q : b < a
  · rw [if_pos q, if_pos q]
    exact ite_ends hk hs htk
  · rw [if_neg q, if_neg q]
    exact ite_ends hk hs htk
theorem best3 (f : Nat → Nat → Bool) : argBest f 2 = if f 1 0 = true then (if f 2 1 = true then 2 else 1) else (if f 2 0 = true then 2 else 0) := by
  show (if f 2 (if f 1 0 = true then 1 else 0) = true then 2 else if f 1 0 = true then 1 else 0) = _
  by_cases h : f 1 0 = true
  · rw [if_pos h, if_pos h]
  · rw [if_neg h, if_neg h]
noncomputable def selF (c : UInt64 → UInt64 → Bool) (x y : UInt64) : UInt64 := if c x y = true then y else x
theorem sel3 {c : UInt64 → UInt64 → Bool} {x y z : UInt64} {t t2 t3 : Tok} {v : Value} (h : #[Value.float x t, .float y t2, .float z t3][if c x y = true then (if c y z = true then 2 else 1) else (if c x z = true then 2 else 0)]? = some v) : ∃ t', v = .float (selF c (selF c x y) z) t' := by
  unfold selF
  by_cases q : c x y = true
  · rw [if_pos q] at h ⊢
    by_cases q2 : c y z = true
    · rw [if_pos q2] at h ⊢; exact ⟨t3, (Option.some.inj h).symm⟩
    · rw [if_neg q2] at h ⊢; exact ⟨t2, (Option.some.inj h).symm⟩
  · rw [if_neg q] at h ⊢
    by_cases q2 : c x z = true
    · rw [if_pos q2] at h ⊢; exact ⟨t3, (Option.some.inj h).symm⟩
    · rw [if_neg q2] at h ⊢; exact ⟨t, (Option.some.inj h).symm⟩
/-- three floats gone through -/
theorem three_ok {A : Around} {op : CmpOp} {x y z : UInt64} {t t2 t3 : Tok} (g : Go l A O s) (f : Nat → Nat → Bool) (r : UInt64) (hc : CmpOf l.prog l.w A.in1 op (fun i v => #[Value.float x t, .float y t2, .float z t3][i]? = some v) f)
    (hr : ∀ v, #[Value.float x t, .float y t2, .float z t3][argBest f 2]? = some v → ∃ t', v = .float r t') :
    wpAny l.M A.in1 (pyIter (.ref s.heap.objs.size)) (fun it s₂ => ∃ I fp wr n P St bt, it = .ref I ∧ Walks l.prog l.w A.in1 I fp wr n P St ∧ St 0 s₂.heap ∧ (∀ b ∈ fp, b < s₂.heap.objs.size) ∧ 0 < n ∧ CmpOf l.prog l.w A.in1 op P bt ∧
      ∀ v h' tk, P (argBest bt (n - 1)) v → (∀ b o, b ∉ wr → s₂.heap.get? b = some o → h'.get? b = some o) → s.heap.objs.size ≤ h'.objs.size → (0 < s.toks → 0 < tk) → Ends O s (.flt r) v { s₂ with heap := h', toks := tk }) NoE
      { s with heap := s.heap.push { cls := .type "tuple", data := .seq #[.float x t, .float y t2, .float z t3] } } := by
  have hT : (s.heap.push { cls := .type "tuple", data := .seq #[.float x t, .float y t2, .float z t3] }).IsTuple s.heap.objs.size #[.float x t, .float y t2, .float z t3] := ⟨_, Heap.get?_push_size _ rfl, rfl, 0, rfl⟩
  refine wpAny_pyIter_tuple hT ?_
  have hsz : (s.heap.push { cls := .type "tuple", data := .seq #[.float x t, .float y t2, .float z t3] }).objs.size = s.heap.objs.size + 1 := Heap.size_push ..
  refine ⟨_, [_, s.heap.objs.size], [_], _, _, _, _, rfl, Walks.tuple (A := A.in1) g.hh _ s.heap.objs.size (by rw [hsz]; exact Nat.ne_of_lt (Nat.lt_succ_self _)) #[.float x t, .float y t2, .float z t3],
    ⟨⟨_, Heap.get?_push_size _ rfl, rfl, rfl⟩, hT.push _⟩, fun c hc => ?_, Nat.succ_pos _, hc, fun v h' tk hP hk hs htk => ?_⟩
  · show c < ((s.heap.push _).push _).objs.size
    rw [Heap.size_push, hsz]
    rw [hsz] at hc
    exact (List.mem_cons.mp hc).elim (fun q => q ▸ Nat.lt_succ_self _) fun q => List.mem_singleton.mp q ▸ Nat.lt_succ_of_lt (Nat.lt_succ_self _)
  · obtain ⟨t', rfl⟩ := hr v hP
    refine Ends.fltK (fun b o e => hk b o (fun hm => ?_) (Heap.get?_push_of_some _ (Heap.get?_push_of_some _ e))) hs htk
    · have := Heap.lt_size e
      rw [List.mem_singleton.mp hm, hsz] at this
      exact Nat.lt_irrefl _ (Nat.lt_of_succ_lt this)
theorem nums3 {x y z : UInt64} {t t2 t3 : Tok} : ∀ v ∈ #[Value.float x t, .float y t2, .float z t3], Flt.NumV v := fun v hv => by
  rcases List.mem_cons.mp (Array.mem_toList_iff.mpr hv) with rfl | hv
  · exact .float _ _
  rcases List.mem_cons.mp hv with rfl | hv
  · exact .float _ _
  cases List.mem_singleton.mp hv
  exact .float _ _
theorem fn_max3f {x y z : UInt64} : FnOk l (.builtin "max") [.flt x, .flt y, .flt z] (.flt (maxF (maxF x y) z)) := fun A s O vs g hvs => hvs.threeE fun v u w r r' r'' => r.fltE fun t => r'.fltE fun t2 => r''.fltE fun t3 => by
  exact with_tk (with_size (call_max_three (three_ok (x := x) (y := y) (z := z) (t := t) (t2 := t2) (t3 := t3) g _ (maxF (maxF x y) z) (Flt.cmpOf_gt _ nums3) fun v hP => sel3 (c := fun a b => Float64.cmp a b == some .lt) (by rw [best3] at hP; exact hP))))
theorem fn_min3f {x y z : UInt64} : FnOk l (.builtin "min") [.flt x, .flt y, .flt z] (.flt (minF (minF x y) z)) := fun A s O vs g hvs => hvs.threeE fun v u w r r' r'' => r.fltE fun t => r'.fltE fun t2 => r''.fltE fun t3 => by
  exact with_tk (with_size (call_min_three (three_ok (x := x) (y := y) (z := z) (t := t) (t2 := t2) (t3 := t3) g _ (minF (minF x y) z) (Flt.cmpOf_lt _ nums3) fun v hP => sel3 (c := fun a b => Float64.cmp b a == some .lt) (by rw [best3] at hP; exact hP))))
end
theorem ints_are {h : Heap} {O : Addr → Prop} : ∀ {ns : List Int} {vs : List Value}, RdL h O (ns.map .int) vs → IntsAre vs ns
  | [], vs, r => r.nilE (G := fun vs => IntsAre vs []) .nil
  | n :: ns, vs, r => r.consE (G := fun vs => IntsAre vs (n :: ns)) fun v ws h1 h2 => h1.intE (G := fun v => IntsAre (v :: ws) (n :: ns)) fun t => .cons n t (ints_are h2)
theorem rd_ints {h : Heap} {O : Addr → Prop} {ns : List Int} {vs : List Value} (q : IntsAre vs ns) : RdL h O (ns.map .int) vs := by
  induction q with
  | nil => exact .nil
  | cons n t _ ih => exact .cons (rd_int.mpr ⟨t, rfl⟩) ih
theorem preSum_eq (ns : List Int) : ∀ (k : Nat), k ≤ ns.length → preSum (fun i => ns.getD i 0) k = (ns.take k).sum
  | 0, _ => rfl
  | k + 1, h => by
    have : ns[k]? = some ns[k] := List.getElem?_eq_getElem h
    rw [preSum, preSum_eq ns k (Nat.le_of_succ_le h), List.take_add_one, this, List.sum_append, List.getD_eq_getElem?_getD, this]
    show _ + ns[k] = _ + (ns[k] + 0)
    rw [Int.add_zero]
section
variable {l : L} {O : Addr → Prop} {s : Shared}
theorem fn_sum {ns : List Int} : FnOk l (.builtin "sum") [.list (ns.map .int)] (.int ns.sum) := fun A s O vs g hvs => hvs.oneE fun v r => r.listE fun a ws n q => by
  have hl := q.len
  rw [List.length_map] at hl
  have hlt := Heap.lt_size q.2.2.1
  have hsz : (s.heap.push { cls := .type "list_iterator", data := .fields #[.ref a, .int 0 0] }).objs.size = s.heap.objs.size + 1 := Heap.size_push ..
  refine with_tk (with_size (call_sum_walkG (wpAny_pyIter_list q.isL ⟨_, _, _, _, _, _, fun i => ns.getD i 0, rfl, Walks.list (A := A.in1) g.hh s.heap.objs.size a (Nat.ne_of_lt hlt) ws, ⟨⟨_, Heap.get?_push_size _ rfl, rfl, rfl⟩, q.isL.push _⟩, fun b hb => ?_, fun i v hv => ?_, fun h' tk t' hk hs htk => ?_⟩)))
  · rw [hsz]
    exact (List.mem_cons.mp hb).elim (fun q => q ▸ Nat.lt_succ_self _) fun q => List.mem_singleton.mp q ▸ Nat.lt_succ_of_lt hlt
  · have hlt2 := (Array.getElem?_eq_some_iff.mp hv).1
    rw [hl] at hlt2
    obtain ⟨u, hu, hr⟩ := q.item (show (ns.map AV.int)[i]? = some (.int ns[i]) by rw [List.getElem?_map, List.getElem?_eq_getElem hlt2]; rfl)
    cases hv.symm.trans hu
    exact hr.intE fun t => ⟨t, by show _ = Value.int (ns.getD i 0) t; rw [List.getD_eq_getElem?_getD, List.getElem?_eq_getElem hlt2]; rfl⟩
  · rw [show preSum (fun i => ns.getD i 0) ws.size = ns.sum by rw [hl, preSum_eq ns _ (Nat.le_refl _), List.take_length]]
    exact Ends.intK (fun b o e => hk b o (fun hm => Nat.lt_irrefl _ (List.mem_singleton.mp hm ▸ Heap.lt_size e)) (Heap.get?_push_of_some _ e)) hs htk
theorem fn_sorted {ns : List Int} (h64 : ns.length < 64) : FnOk l (.builtin "sorted") [.list (ns.map .int)] (.list ((sortI ns).map .int)) := fun A s O vs g hvs => hvs.oneE fun v r => r.listE fun a ws n q => by
  have hl := q.len
  rw [List.length_map] at hl
  refine with_size (sorted_ints (vs := ws.toList) ⟨_, q.2.2.1, rfl, n, by rw [Array.toArray_toList]⟩ (ints_are q.2.2.2.2) (by rw [Array.length_toList, hl]; exact h64) fun out ns' hi hp hs hsz => ?_)
  cases eq_sortI hp hs
  have k : K0 s { s with heap := sortedAll s.heap ws.toList out } := K0.heap1 (fun b o e => sortedAll_old e) hsz
  obtain ⟨e, he⟩ := sortedAll_at s.heap ws.toList out
  have hlo : out.size = ns.length := Array.length_toList.symm.trans (hi.length.trans hp.length_eq)
  refine ⟨k, rd_list.mpr ⟨_, out, e, rfl, fun q => Nat.not_succ_le_self _ (Nat.le_trans (g.bd _ q) (Nat.le_succ _)), Nat.ne_of_gt (Nat.lt_succ_of_lt (TA_lt g.base.tab)), he, ?_, rd_ints hi⟩⟩
  rw [hlo, sizeLine_eq]; exact Nat.le_trans (Nat.le_of_lt h64) (by decide)
end
section
open Builtin Builtin.Str
theorem strs_are {h : Heap} {O : Addr → Prop} : ∀ {ns : List Str} {vs : List Value}, RdL h O (ns.map .str) vs → ∃ l : List (Str × Tok), vs = strValues l ∧ l.map (·.1) = ns
  | [], vs, r => r.nilE (G := fun vs => ∃ l, vs = strValues l ∧ l.map (·.1) = []) ⟨[], rfl, rfl⟩
  | n :: ns, vs, r => r.consE (G := fun vs => ∃ l, vs = strValues l ∧ l.map (·.1) = n :: ns) fun v ws h1 h2 => h1.strE (G := fun v => ∃ l, v :: ws = strValues l ∧ l.map (·.1) = n :: ns) fun t _ =>
    (strs_are h2).elim fun l z => ⟨(n, t) :: l, congrArg (Value.str n t :: ·) z.1, congrArg (n :: ·) z.2⟩
theorem rd_strs {h : Heap} {O : Addr → Prop} : ∀ {l : List (Str × Tok)}, (∀ p ∈ l, p.1.length ≤ sizeLine) → RdL h O ((l.map (·.1)).map .str) (strValues l)
  | [], _ => .nil
  | (x, t) :: l, hl => .cons (rd_str.mpr ⟨t, rfl, hl _ List.mem_cons_self⟩) (rd_strs fun p hp => hl p (List.mem_cons_of_mem _ hp))
section
variable {l : L} {cx : Cx} {f : Fm} {ρ : Ro} {O : Addr → Prop} {s : Shared}
theorem str_ty {x : Str} (s : Shared) (O : Addr → Prop) (v : Value) (r : Rd s.heap O (.str x) v) : s.TypeIs v "str" ∧ ∀ a, v = .ref a → ∃ ob, s.heap.get? a = some ob ∧ ob.dict = none :=
  r.strE (G := fun v => s.TypeIs v "str" ∧ ∀ a, v = .ref a → ∃ ob, s.heap.get? a = some ob ∧ ob.dict = none) fun t _ => ⟨typeIs_str s x t, fun a e => nomatch e⟩
theorem list_ty {xs : List AV} (s : Shared) (O : Addr → Prop) (v : Value) (r : Rd s.heap O (.list xs) v) : s.TypeIs v "list" ∧ ∀ a, v = .ref a → ∃ ob, s.heap.get? a = some ob ∧ ob.dict = none :=
  r.listE (G := fun v => s.TypeIs v "list" ∧ ∀ a, v = .ref a → ∃ ob, s.heap.get? a = some ob ∧ ob.dict = none) fun a vs n q => ⟨⟨_, q.2.2.1, rfl⟩, fun b e => ⟨_, Value.ref.inj e ▸ q.2.2.1, rfl⟩⟩
theorem m_join {x : Str} {texts : List Str} (hok : JoinOk x texts = true) : MT l "join" (.str x) [.list (texts.map .str)] (.str (Txt.join x texts)) :=
  ⟨"str", _, PySem.F.plainAttrs_str, PySem.F.slot_str_join, PySem.F.type_str_join, str_ty, fun A s O vs g hvs => hvs.twoE fun v u r r' => r.strE fun t _ => r'.listE fun D ws n q => by
    obtain ⟨l, e, hl⟩ := strs_are q.2.2.2.2
    have hz : (Txt.join x texts).length ≤ sizeLine := joinFit_length ((Bool.not_eq_true' _).mp hok)
    exact with_tk (SC.join (l := l) ⟨_, q.2.2.1, rfl, n, by rw [← e, Array.toArray_toList]⟩ hl hok fun t' k htk => .strT hz htk)⟩
theorem m_lstrip {x y : Str} (hz : x.length ≤ sizeLine) : MT l "lstrip" (.str x) [.str y] (.str (Txt.lstripChars x y)) :=
  ⟨"str", _, PySem.F.plainAttrs_str, PySem.F.slot_str_lstrip, PySem.F.type_str_lstrip, str_ty, fun A s O vs g hvs => hvs.twoE fun v u r r' => r.strE fun t _ => r'.strE fun t2 _ =>
    with_tk (SC.lstripChars (fun t' k htk => .strT (Nat.le_trans (PyProof.Rows.len_lstripChars x y) hz) htk) hz)⟩
noncomputable def splitA (x y : Str) : List Str := partsBetween x (occurrences x y 0 x.length (x.length + 1)) y.length
noncomputable def splitOk (x y : Str) : Bool := (decide (x.length < y.length) || decide (strKind x < strKind y)) == false && (y.length == 0) == false && (occurrences x y 0 x.length (x.length + 1)).isEmpty == false &&
  decide ((splitA x y).length ≤ sizeLine) && (splitA x y).all (fun p => decide (p.length ≤ sizeLine))
theorem m_split {x y : Str} (hok : splitOk x y = true) : MT l "split" (.str x) [.str y] (.list ((splitA x y).map .str)) :=
  ⟨"str", _, PySem.F.plainAttrs_str, PySem.F.slot_str_split, PySem.F.type_str_split, str_ty, fun A s O vs g hvs => hvs.twoE fun v u r r' => r.strE fun t hz => r'.strE fun t2 _ => by
    unfold splitOk at hok
    simp only [Bool.and_eq_true, beq_iff_eq, decide_eq_true_eq] at hok
    obtain ⟨⟨⟨⟨c1, c2⟩, c3⟩, c4⟩, c5⟩ := hok
    refine call_meets PySem.F.slot_str_split (typeIs_str _ _ _) PySem.F.entry_str_split (PySem.F.args_str_split_2 _ _) (meets_str_split_sep x y t t2 c1 c2 c3 hz c4) ?_
    rw [strsFrom_eq]
    have hlm : (numbered s.toks (splitA x y)).map (·.1) = splitA x y := numbered_texts _ _
    refine newList_ok (tk := _) (vs := strValues (numbered s.toks (splitA x y))) ?_ g.bd g.base.tab ?_ fun h => Nat.lt_of_lt_of_le h (Nat.le_add_right _ _)
    · rw [← congrArg (List.map AV.str) hlm]
      exact rd_strs fun p hp => of_decide_eq_true (List.all_eq_true.mp c5 p.1 (hlm ▸ List.mem_map_of_mem hp))
    · rw [show (strValues (numbered s.toks (splitA x y))).length = (splitA x y).length by rw [← congrArg List.length hlm, List.length_map]; exact List.length_map ..]
      exact c4⟩
noncomputable def idxI (i : Int) : List Int → Option Nat
  | [] => none
  | n :: r => if n = i then some 0 else (idxI i r).map (· + 1)
theorem idxI_spec {i : Int} : ∀ {ns : List Int} {j : Nat}, idxI i ns = some j → ns[j]? = some i ∧ ∀ m : Nat, m < j → ns[m]? ≠ some i
  | [], _, h => nomatch h
  | n :: r, j, h => by
    unfold idxI at h
    by_cases e : n = i
    · rw [if_pos e] at h
      cases h
      exact ⟨congrArg some e, fun m hm => absurd hm (Nat.not_lt_zero _)⟩
    · rw [if_neg e] at h
      obtain ⟨k, hk, rfl⟩ := Option.map_eq_some_iff.mp h
      obtain ⟨h2, h3⟩ := idxI_spec hk
      exact ⟨h2, fun m hlt => match m with
        | 0 => fun q => e (Option.some.inj q)
        | m + 1 => h3 m (Nat.lt_of_succ_lt_succ hlt)⟩
noncomputable def numV : Value → Int
  | .int i _ => i
  | _ => 0
theorem ints_get {ns : List Int} {vs : List Value} (r : IntsAre vs ns) : ∀ k : Nat, (vs[k]?).map numV = ns[k]? := by
  induction r with
  | nil => exact fun _ => rfl
  | cons n t _ ih => exact fun k => match k with
    | 0 => rfl
    | k + 1 => ih k
theorem m_index {ns : List Int} {i : Int} {j : Nat} (hj : idxI i ns = some j) : MT l "index" (.list (ns.map .int)) [.int i] (.int j) :=
  ⟨"list", _, PySem.F.plainAttrs_list, PySem.F.slot_list_index, PySem.F.type_list_index, list_ty, fun A s O vs g hvs => hvs.twoE fun v u r r' => r.listE fun D ws n q => r'.intE fun t2 => by
    have hia := ints_are q.2.2.2.2
    obtain ⟨j2, j3⟩ := idxI_spec hj
    have at_ : ∀ k : Nat, (ws[k]?).map numV = ns[k]? := fun k => by rw [← Array.getElem?_toList]; exact ints_get hia k
    have hjw : j < ws.size := by
      have := at_ j
      rw [j2] at this
      obtain ⟨u, hu, _⟩ := Option.map_eq_some_iff.mp this
      exact (Array.getElem?_eq_some_iff.mp hu).1
    refine call_meets PySem.F.slot_list_index ⟨_, q.2.2.1, rfl⟩ PySem.F.entry_list_index (PySem.F.args_list_index_2 _ _) (MeetsSeq.list_index D ws n (.int i t2) (fun y => numV y == i) (fun y hy => ?_) j hjw ?_ ?_ fun m hm hlt => ?_) ⟨q.2.2.1, .int⟩
    · obtain ⟨n', t', rfl⟩ := hia.all y (Array.mem_toList_iff.mpr hy)
      exact MeetsSeq.EqGives.int n' i t' t2
    · exact Int.lt_of_lt_of_le (Int.ofNat_lt.mpr (Nat.lt_of_lt_of_le hjw q.2.2.2.1)) (by rw [sizeLine_eq]; decide)
    · have := at_ j
      rw [Array.getElem?_eq_getElem hjw, j2] at this
      exact beq_iff_eq.mpr (Option.some.inj this)
    · have := at_ m
      rw [Array.getElem?_eq_getElem hm] at this
      exact beq_eq_false_iff_ne.mpr fun e => j3 m hlt (this.symm.trans (congrArg some e))⟩
/-- the one replacement: both texts are just made -/
theorem EE_repl {o apos iy py iz pz pos} {x y z : Str} (hb : Plain o) (hg : ((apos.endLine == pos.line) && !(y == z) && decide (y.length ≤ sizeLine) && decide (z.length ≤ sizeLine)) = true) (h : EV l cx ρ o (.str x)) (hz : x.length + (x.length + 1) * z.length ≤ 16777216 ∧ (Txt.replace x y z).length ≤ sizeLine) :
    EV l cx ρ (.Call (.Attribute o "replace" apos) [.Constant (.str y) iy py, .Constant (.str z) iz pz] [] pos) (.str (Txt.replace x y z)) := .mk fun f s a => by
  simp only [Bool.and_eq_true, Bool.not_eq_true', decide_eq_true_eq] at hg
  obtain ⟨⟨⟨hl, hyz⟩, hy⟩, hz'⟩ := hg
  refine wpAny_Call_method_late (hb _ _ _) rfl hl rfl (h.go a .refl fun ov s₁ k _ r => r.strE fun t hx => ?_)
  refine ⟨"str", _, PySem.F.plainAttrs_str, PySem.F.slot_str_replace, PySem.F.type_str_replace, typeIs_str _ _ _, fun b e => (nomatch e),
    Calls.callWith_builtin rfl (Calls.evalArgs_plain (Calls.spliced_cons (PySem.wpAny_Constant_str (k := iy) (pos := py) (Calls.spliced_cons (PySem.wpAny_Constant_str (k := iz) (pos := pz) (Calls.spliced_nil ?_))))))⟩
  exact with_tk (SC.replace (Nat.ne_of_gt (k.tk a.tk)) (Nat.succ_ne_zero _) (Nat.ne_of_lt (Nat.lt_succ_self _)) hyz hz.1 fun t' j htk => Ends.trans k (.strT (s := s₁) hz.2 fun h => htk (Nat.lt_of_lt_of_le h (Nat.le_add_right _ 2))))
end
end
section
open Builtin Builtin.Str
theorem enc_tree (x : Str) (t u : Tok) : «str.encode» ⟨[.str x t, .str (Str.ofString "ascii") u], []⟩ = (do ret (← _codecs.encodeRoad "str.encode" (.str x t) x (Str.ofString "ascii") none)) := by kernel_rfl
theorem enc_road (id : String) (self : Value) (x : Str) : _codecs.encodeRoad id self x (Str.ofString "ascii") none = (do mkBytes (← _codecs.encodeNarrow id _codecs.asciiCodec none self x)) := by kernel_rfl
theorem fold_bytes : ∀ (l : List Nat) (acc : Array UInt8), l.foldl (fun acc y => acc ++ (_codecs.asciiCodec.bytesOf y).toArray) acc = acc ++ (l.map Nat.toUInt8).toArray
  | [], acc => Array.append_empty.symm
  | c :: l, acc => (fold_bytes l _).trans (Array.append_assoc.trans (congrArg (acc ++ ·) (List.append_toArray ..)))
theorem loop2 {σ : Type} {f : Nat → σ → Sem (ForInStep σ)} {a b : σ} (h1 : f 0 a = pure (.yield b)) (h2 : ∀ i, f i b = pure (.done b)) {n : Nat} (hn : 0 < n) : forIn (m := Sem) [0 : n] a f = pure b := by
  rw [Std.Legacy.Range.forIn_eq_forIn_range']
  obtain ⟨m, rfl⟩ := Nat.exists_eq_succ_of_ne_zero (Nat.ne_of_gt hn)
  rw [show Std.Legacy.Range.size [0 : m + 1] = m + 1 from Nat.div_one _, List.range'_succ, List.forIn_cons, h1, pure_bind]
  cases m with
  | zero => rfl
  | succ m =>
    dsimp only
    rw [List.range'_succ, List.forIn_cons, h2, pure_bind]
theorem if_no {α : Type} {c : Prop} [Decidable c] {x y z : α} (h : ¬ c) (e : y = z) : (if c then x else y) = z := (if_neg h).trans e
theorem if_yes {α : Type} {c : Prop} [Decidable c] {x y z : α} (h : c) (e : x = z) : (if c then x else y) = z := (if_pos h).trans e
theorem clean_b {x : Str} (h : ∀ c ∈ x.cps, c < 128) {c : Nat} (hc : c ∈ x.cps) : _codecs.asciiCodec.bad c = false := decide_eq_false (Nat.not_le.mpr (h c hc))
theorem enc_all {x : Str} (h : ∀ c ∈ x.cps, c < 128) : (0 + (Array.findIdx? _codecs.asciiCodec.bad (x.cps.extract 0)).getD (x.cps.extract 0).size, Array.foldl (fun acc y => acc ++ (_codecs.asciiCodec.bytesOf y).toArray) #[] ((x.cps.extract 0).extract 0 ((Array.findIdx? _codecs.asciiCodec.bad (x.cps.extract 0)).getD (x.cps.extract 0).size)), ({} : _codecs.Faults)) = (x.cps.size, x.cps.map Nat.toUInt8, {}) := by
  rw [Array.extract_size, show Array.findIdx? _codecs.asciiCodec.bad x.cps = none from Array.findIdx?_eq_none_iff.mpr fun c hc => clean_b h hc, Option.getD_none, Array.extract_size, ← Array.foldl_toList, fold_bytes, Nat.zero_add, Array.empty_append, ← Array.toList_map]
theorem enc_narrow (id : String) (self : Value) (x : Str) (h0 : 0 < x.length) (hz : x.length ≤ sizeLine) (h : ∀ c ∈ x.cps, c < 128) : _codecs.encodeNarrow id _codecs.asciiCodec none self x = pure (x.cps.map Nat.toUInt8) := by
  unfold _codecs.encodeNarrow
  dsimp only
  rw [loop2 (b := (x.cps.size, x.cps.map Nat.toUInt8, {})) ?_ ?_ h0]
  · rfl
  · refine if_no (Nat.not_lt_zero _) ?_
    rw [show x.cps[((0, #[], {}) : Nat × Array UInt8 × _codecs.Faults).fst]? = some x.cps[0] from Array.getElem?_eq_getElem h0]
    exact if_yes (by rw [clean_b h (Array.getElem_mem h0)]; rfl) (congrArg (fun p => pure (ForInStep.yield p)) (enc_all h))
  · intro i
    refine if_no (Nat.not_lt.mpr (by rw [Array.size_map]; exact hz)) ?_
    rw [show x.cps[((x.cps.size, x.cps.map Nat.toUInt8, {}) : Nat × Array UInt8 × _codecs.Faults).fst]? = none from Array.getElem?_eq_none (Nat.le_refl _)]
theorem dec_tree (c : UInt8) (cs : List UInt8) (t u : Tok) : «bytes.decode» ⟨[.bytes (c :: cs).toArray t, .str (Str.ofString "ascii") u], []⟩ = (mkStr (PySem.Str.ofString "utf-8") >>= fun _ => mkStr (PySem.Str.ofString "ascii") >>= fun e => mkStr (PySem.Str.ofString "bytes.decode") >>= fun d =>
    call (.builtin "_codecs.decode.text") [.bytes (c :: cs).toArray t, e, .none, d] >>= fun v => ret v) := by kernel_rfl
theorem dec_road {id : String} {b : Array UInt8} : _codecs.decodeRoad id b (PySem.Str.ofString "ascii") none [] = (_codecs.runDecoder id _codecs.asciiDecoder none true b 0 [] >>= fun r => mkStr ⟨r.1⟩) := by kernel_rfl
theorem dec_loop {F : Type} {b : Array UInt8} {st : F} {f : Nat → (Nat × Array Nat × F) → Sem (ForInStep (Nat × Array Nat × F))}
    (hf : ∀ i p, p < b.size → f i (p, (b.extract 0 p).map UInt8.toNat, st) = pure (.yield (p + 1, (b.extract 0 (p + 1)).map UInt8.toNat, st))) :
    ∀ (l : List Nat) (p : Nat), p + l.length = b.size → forIn l (p, (b.extract 0 p).map UInt8.toNat, st) f = pure (b.size, b.map UInt8.toNat, st)
  | [], p, h => by
    cases show p = b.size from h
    rw [List.forIn_nil, Array.extract_size]
  | x :: l, p, h => by
    rw [List.forIn_cons, hf x p (h ▸ Nat.lt_add_of_pos_right (Nat.succ_pos _)), pure_bind]
    exact dec_loop hf l (p + 1) ((Nat.add_right_comm ..).trans h)
theorem ext_more {b : Array UInt8} {p : Nat} (hp : p < b.size) : (b.extract 0 p).map UInt8.toNat ++ [b[p].toNat].toArray = (b.extract 0 (p + 1)).map UInt8.toNat := by
  apply Array.toList_inj.mp
  rw [Array.toList_append, Array.toList_map, Array.toList_map, Array.toList_extract, Array.toList_extract, List.extract_eq_take_drop, List.extract_eq_take_drop, Nat.sub_zero, Nat.sub_zero, List.drop_zero, List.take_add_one, List.map_append, Array.getElem?_toList, Array.getElem?_eq_getElem hp]
  rfl
theorem dec_run (id : String) (b : Array UInt8) (hz : b.size ≤ sizeLine) (h : ∀ c ∈ b, c.toNat < 128) : _codecs.runDecoder id _codecs.asciiDecoder none true b 0 [] = pure (b.map UInt8.toNat, b.size) := by
  unfold _codecs.runDecoder
  dsimp only
  rw [Std.Legacy.Range.forIn_eq_forIn_range', show Std.Legacy.Range.size [0 : b.size] = b.size from Nat.div_one _]
  have e0 : (#[] : Array Nat) = (b.extract 0 0).map UInt8.toNat := by rw [Array.extract_zero, Array.map_empty]
  rw [e0, dec_loop (fun i p hp => ?_) (List.range' 0 b.size) 0 (by rw [Nat.zero_add, List.length_range'])]
  · rfl
  · refine if_no (Nat.not_lt.mpr ?_) (if_no (Nat.not_le.mpr hp) ?_)
    · show ((b.extract 0 p).map UInt8.toNat).size ≤ _
      rw [Array.size_map, Array.size_extract]
      exact Nat.le_trans (Nat.sub_le _ _) (Nat.le_trans (Nat.min_le_right _ _) hz)
    · have hg : b.getD p 0 = b[p] := by rw [Array.getD_eq_getD_getElem?, Array.getElem?_eq_getElem hp]; rfl
      rw [show _codecs.asciiDecoder.find true b p = .text [b[p].toNat] (p + 1) from if_yes (by rw [hg]; exact h _ (Array.getElem_mem hp)) (by rw [hg]; rfl)]
      exact congrArg (fun z => pure (ForInStep.yield (p + 1, z, _))) (ext_more hp)
theorem dec_text {b : Array UInt8} {t t1 t2 : Tok} {d : PySem.Str} (hz : b.size ≤ sizeLine) (h : ∀ c ∈ b, c.toNat < 128) :
    Meets («_codecs.decode.text» ⟨[.bytes b t, .str (PySem.Str.ofString "ascii") t1, .none, .str d t2], []⟩) (fun _ R s => R (.ok (.ret (.str ⟨b.map UInt8.toNat⟩ s.toks))) { s with toks := s.toks + 1 }) := by
  refine .of_wp fun prog w A R s hS => ?_
  show wpAny _ _ (Bytes.bytesLike _ (.bytes b t) >>= fun r => _) _ _ s
  refine wpAny_bind (wpAny_of_eq KBd.like_eq ?_)
  refine wpAny_bind (wpAny_of_eq KBd.held_eq ?_)
  show wpAny _ _ (_codecs.decodeRoad _ b (PySem.Str.ofString "ascii") none [] >>= fun v => _) _ _ s
  rw [dec_road, dec_run _ b hz h]
  refine wpAny_bind (wpAny_bind (wpAny_pure ?_))
  exact wpAny_mkStr (wpAny_pure ⟨_, rfl, hS⟩) (by show (b.map UInt8.toNat).size ≤ _; rw [Array.size_map]; exact hz)
theorem args_dec2 (a b : Value) : argsOk "bytes.decode" ⟨[a, b], []⟩ := by unfold argsOk; kernel_rfl
noncomputable def asciiB (b : Array UInt8) : Bool := b.all fun c => decide (c.toNat < 128)
noncomputable def asciiS (x : Str) : Bool := x.cps.all fun c => decide (c < 128)
section
variable {l : L}
theorem m_decode {b : Array UInt8} (h0 : 0 < b.size) (ha : asciiB b = true) : MT l "decode" (.bytes b) [.str (Str.ofString "ascii")] (.str ⟨b.map UInt8.toNat⟩) :=
  ⟨"bytes", _, FB.plainAttrs_bytes, FB.slot_bytes_decode, FB.type_bytes_decode, fun s O v r => by
    obtain ⟨t, rfl, _⟩ := rd_bytes.mp r
    exact ⟨typeIs_bytes _ _ _, fun a e => nomatch e⟩, fun A s O vs g hvs => hvs.twoE fun v u r r' => r'.strE fun t2 _ => by
    obtain ⟨t, rfl, hz⟩ := rd_bytes.mp r
    have hasc : ∀ c ∈ b, c.toNat < 128 := fun c hc => of_decide_eq_true (Array.all_eq_true_iff_forall_mem.mp ha c hc)
    obtain ⟨l⟩ := b
    cases l with
    | nil => exact absurd h0 (Nat.lt_irrefl 0)
    | cons c cs =>
      have hm : Meets («bytes.decode» ⟨[.bytes (c :: cs).toArray t, .str (Str.ofString "ascii") t2], []⟩) (fun _ R s => ∀ t' k, (0 < s.toks → 0 < k) → R (.ok (.ret (.str ⟨(c :: cs).toArray.map UInt8.toNat⟩ t'))) { s with toks := k }) := by
        refine .of_wp fun prog w A R s hS => ?_
        rw [dec_tree]
        refine wpAny_bind (wpAny_mkStr ?_ (by decide))
        refine wpAny_bind (wpAny_mkStr ?_ (by decide))
        refine wpAny_bind (wpAny_mkStr ?_ (by decide))
        exact wpAny_bind (call_function_meets KBd.kind_text KBd.plain_text KBd.entry_text (KBd.args_text _ _ _ _) (dec_text hz hasc) (wpAny_pure ⟨_, rfl, hS _ _ (fun _ => Nat.succ_pos _)⟩))
      exact call_meets FB.slot_bytes_decode (typeIs_bytes _ _ _) FB.entry_bytes_decode (args_dec2 _ _) hm fun t' k htk => .strT (by show (((c :: cs).toArray.map UInt8.toNat).size ≤ _); rw [Array.size_map]; exact hz) htk⟩
theorem m_encode {x : Str} (h0 : 0 < x.length) (ha : asciiS x = true) : MT l "encode" (.str x) [.str (Str.ofString "ascii")] (.bytes (x.cps.map Nat.toUInt8)) :=
  ⟨"str", _, PySem.F.plainAttrs_str, PySem.F.slot_str_encode, PySem.F.type_str_encode, str_ty, fun A s O vs g hvs => hvs.twoE fun v u r r' => r.strE fun t hz => r'.strE fun t2 _ => by
    have hasc : ∀ c ∈ x.cps, c < 128 := fun c hc => of_decide_eq_true (Array.all_eq_true_iff_forall_mem.mp ha c hc)
    have hz' : (x.cps.map Nat.toUInt8).size ≤ sizeLine := by rw [Array.size_map]; exact hz
    have hm : Meets («str.encode» ⟨[.str x t, .str (Str.ofString "ascii") t2], []⟩) (fun _ R s => R (.ok (.ret (.bytes (x.cps.map Nat.toUInt8) s.toks))) { s with toks := s.toks + 1 }) := by
      refine .of_wp fun prog w A R s hS => ?_
      rw [enc_tree, enc_road, enc_narrow _ _ x h0 hz hasc]
      refine wpAny_bind (wpAny_bind (wpAny_pure ?_))
      exact wpAny_mkBytes (wpAny_pure ⟨_, rfl, hS⟩) hz'
    exact call_meets PySem.F.slot_str_encode (typeIs_str _ _ _) PySem.F.entry_str_encode (PySem.F.args_str_encode_2 _ _) hm ⟨.tick, rd_bytes.mpr ⟨_, rfl, hz'⟩⟩⟩
end
end
noncomputable def runK {α : Type} (bt : Nat → Nat → Bool) : KasT α → α
  | .ret a => a
  | .ask i j k => runK bt (k (bt i j))
noncomputable def okK {α : Type} (n : Nat) : KasT α → Bool
  | .ret _ => true
  | .ask i j k => decide (i < n) && decide (j < n) && okK n (k true) && okK n (k false)
theorem kas_of {α : Type} {n : Nat} {bt : Nat → Nat → Bool} {cmp : Nat → Nat → (Bool → Shared → Prop) → Shared → Prop} {S : Shared} (hc : ∀ i j C, i < n → j < n → C (bt i j) S → cmp i j C S) {Q : α → Shared → Prop} :
    ∀ t : KasT α, okK n t = true → Q (runK bt t) S → t.kasWp cmp Q S
  | .ret a, _, h => h
  | .ask i j k, ho, h => by
    have ho := Bool.and_eq_true_iff.mp ho
    have ho1 := Bool.and_eq_true_iff.mp ho.1
    have ho2 := Bool.and_eq_true_iff.mp ho1.1
    refine hc i j _ (of_decide_eq_true ho2.1) (of_decide_eq_true ho2.2) (kas_of hc _ ?_ h)
    cases bt i j
    · exact ho.2
    · exact ho1.2
section
variable {l : L} {A : Around} {O : Addr → Prop} {s : Shared} {E : Value → Shared → Prop}
/-- the heap while a list is sorted -/
noncomputable abbrev sortHeap (h : Heap) (a : Addr) (vs : Array Value) : Heap := ((h.update a (Obj.mapSeq fun _ => #[])).push (seqObj "tuple" vs 0)).push (seqObj "list" #[] 0)
theorem list_sort_pairs {a : Addr} {vs : List Value} {n : Nat} {R : PySem.Fin → Shared → Prop} {bt : Nat → Nat → Bool} (ho : s.heap.get? a = some (seqObj "list" vs.toArray n)) (h2 : 2 ≤ vs.length) (h64 : vs.length < 64) (hok : okK vs.length (kas_sort vs.length) = true)
    (hkind : ∀ (S : Shared) (Q : SortKind → Shared → Prop), (∀ b o, b ≠ a → s.heap.get? b = some o → S.heap.get? b = some o) → Q (tuples' true) S → wpAny l.M A (keyKind' vs.toArray) Q (fun _ _ => False) S)
    (hask : ∀ (S : Shared) (i j : Nat) (C : Bool → Shared → Prop), (∀ b o, b ≠ a → s.heap.get? b = some o → S.heap.get? b = some o) → i < vs.length → j < vs.length → C (bt i j) S → wpAny l.M A (keyLt' (tuples' true) (vs.getD i .none) (vs.getD j .none)) C (fun _ _ => False) S)
    (h : R (.done (.ret .none)) { s with heap := sortedHeap s.heap a vs (((runK bt (kas_sort vs.length)).toList.map fun i => vs.getD i Value.none).toArray) }) (hsz : (runK bt (kas_sort vs.length)).size ≤ sizeLine) :
    wpAny l.M A (Builtin.«list.sort» ⟨[.ref a], []⟩) R E s := by
  rw [list_sort_plain]
  have ha : a < s.heap.objs.size := Heap.lt_size ho
  have hz : vs.length ≤ sizeLine := Nat.le_trans (Nat.le_of_lt h64) (by rw [sizeLine_eq]; decide)
  refine wpAny_bind (listItems_at ho rfl ?_)
  refine wpAny_bind (listUpdate_at ho rfl ?_ hz (Nat.zero_le _))
  have ho1 : ∃ e1, (s.heap.update a (Obj.mapSeq fun _ => #[])).get? a = some (seqObj "list" #[] e1) := ⟨_, get?_update_seq ho (fun _ => #[])⟩
  obtain ⟨e1, ho1⟩ := ho1
  refine wpAny_bind (seqEpoch_at ho1 rfl ?_)
  refine wpAny_bind (wpAny_newTuple ?_ hz)
  refine wpAny_bind (wpAny_newList ?_ (Nat.zero_le _))
  refine wpAny_holding ?_
  show wpAny l.M A _ R E { s with heap := sortHeap s.heap a vs.toArray }
  have ho6 : (sortHeap s.heap a vs.toArray).get? a = some (seqObj "list" #[] e1) := Heap.get?_push_of_some _ (Heap.get?_push_of_some _ ho1)
  have keep : ∀ b o, b ≠ a → s.heap.get? b = some o → (sortHeap s.heap a vs.toArray).get? b = some o := fun b o hb e =>
    Heap.get?_push_of_some _ (Heap.get?_push_of_some _ ((Heap.get?_update_ne _ _ _ _ hb).trans e))
  generalize hS : sortHeap s.heap a vs.toArray = H at *
  dsimp only
  have hn2 : ¬ vs.toArray.size < 2 := Nat.not_lt.mpr h2
  rw [if_neg hn2, if_neg hn2]
  refine wpAny_bind (wpAny_mono (hkind { s with heap := H } (fun κ s' => κ = tuples' true ∧ s' = { s with heap := H }) keep ⟨rfl, rfl⟩) (fun κ s0 hk => ?_) fun _ _ x => x.elim)
  obtain ⟨rfl, rfl⟩ := hk
  refine wpAny_bind (wpAny_mono (kat_run (ks := vs) (vs := vs) (κ := tuples' true) (G := fun p s' => p = runK bt (kas_sort vs.length) ∧ s' = { s with heap := H })
    (Q := fun st' s' => ∃ p : Array Nat, arrOf st' = p.map (kas_item (vs.toArray.zip vs.toArray)) ∧ failedOf st' = none ∧ p = runK bt (kas_sort vs.length) ∧ s' = { s with heap := H })
    rfl h2 h64 (fun p' st' s' a1 a2 a3 a4 => ⟨p', a2, a3, a4.1, a4.2⟩) (kas_of (n := vs.length) (bt := bt) (fun i j C hi hj hC => hask _ i j C keep hi hj hC) _ hok ⟨rfl, rfl⟩)) ?_ fun _ _ e => e)
  rintro ⟨⟨⟩, st'⟩ s' ⟨p, har, hf, rfl, rfl⟩
  dsimp only
  refine wpAny_bind (seqEpoch_at ho6 rfl ?_)
  rw [kat_snds (ks := vs) (vs := vs) rfl har]
  refine wpAny_bind (listUpdate_at ho6 rfl ?_ (Nat.zero_le _) (by rw [List.size_toArray, List.length_map, Array.length_toList]; exact Nat.le_succ_of_le hsz))
  rw [hf, show (e1 != e1) = false from bne_self_eq_false _]
  subst hS
  exact wpAny_pure h
noncomputable def pairAV (p : Int × Int) : AV := .tup [.int p.1, .int p.2]
/-- a value that holds a pair -/
noncomputable def PairAt (h : Heap) (v : Value) (p : Int × Int) : Prop := ∃ a n t u, v = .ref a ∧ h.get? a = some { cls := .type "tuple", data := .seq #[.int p.1 t, .int p.2 u] n }
theorem pair_at {h : Heap} {p : Int × Int} {v : Value} (r : Rd h O (pairAV p) v) : PairAt h v p :=
  Rd.tupE (G := fun v => PairAt h v p) r fun a ws n q => by
    obtain ⟨_, _, g, _, q5⟩ := q
    have hw : ∃ t u, ws = #[.int p.1 t, .int p.2 u] := RdL.twoE (G := fun vs => vs = ws.toList → ∃ t u, ws = #[.int p.1 t, .int p.2 u]) q5 (fun v u r1 r2 e => r1.intE (G := fun v => [v, u] = ws.toList → _) (fun t => r2.intE (G := fun u => [.int p.1 t, u] = ws.toList → _) fun t2 e => ⟨t, t2, Array.toList_inj.mp e.symm⟩) e) rfl
    obtain ⟨t, u, rfl⟩ := hw
    exact ⟨a, n, t, u, rfl, g⟩
/-- values that hold pairs -/
noncomputable def PairsAt (h : Heap) (vs : List Value) (ps : List (Int × Int)) : Prop := vs.length = ps.length ∧ ∀ (i : Nat) v p, vs[i]? = some v → ps[i]? = some p → PairAt h v p
theorem pairs_at {h : Heap} {ps : List (Int × Int)} {vs : List Value} (r : RdL h O (ps.map pairAV) vs) : PairsAt h vs ps :=
  ⟨r.length.trans (List.length_map ..), fun i v p hv hp => (r.get (show (ps.map pairAV)[i]? = some (pairAV p) by rw [List.getElem?_map, hp]; rfl)).elim fun u z => pair_at (Option.some.inj (z.1.symm.trans hv) ▸ z.2)⟩
noncomputable def ltP (p q : Int × Int) : Bool := if p.1 = q.1 then decide (p.2 < q.2) else decide (p.1 < q.1)
theorem ask_pairs {S : Shared} {p q : Int × Int} {x y : Value} {C : Bool → Shared → Prop} (hx : PairAt S.heap x p) (hy : PairAt S.heap y q) (h : C (ltP p q) S) : wpAny l.M A (keyLt' (tuples' true) x y) C (fun _ _ => False) S := by
  obtain ⟨a, b⟩ := p
  obtain ⟨c, e⟩ := q
  obtain ⟨x, n, t1, t2, rfl, hx⟩ := hx
  obtain ⟨y, m, t3, t4, rfl, hy⟩ := hy
  refine kat_lt hx rfl hy rfl ?_
  show KatLex l.prog l.w A true (decide (2 < 2)) C [(.int a t1, .int c t3), (.int b t2, .int e t4)] 0 S
  unfold ltP at h
  refine kat_cons (wpAny_eqBool_int (kat_go (fun h1 => ?_) fun h1 => ?_))
  · rw [if_pos (show a = c from eq_of_beq h1)] at h
    refine kat_yes (kat_cons (wpAny_eqBool_int (kat_go (fun h2 => ?_) fun h2 => kat_no (kat_one _ _ (PyProof.Rows.lt_int h)))))
    refine kat_yes (kat_nil ?_)
    rwa [decide_eq_false (show ¬ b < e from fun z => Int.lt_irrefl _ (eq_of_beq h2 ▸ z))] at h
  · rw [if_neg (show ¬ a = c from beq_eq_false_iff_ne.mp h1)] at h
    exact kat_no (oneLt_int h)
noncomputable def sortP (ps : List (Int × Int)) : List (Int × Int) := (runK (fun i j => ltP (ps.getD i (0, 0)) (ps.getD j (0, 0))) (kas_sort ps.length)).toList.map fun i => ps.getD i (0, 0)
structure SortOk (ps : List (Int × Int)) : Prop where
  two : 2 ≤ ps.length
  few : ps.length < 64
  ok : okK ps.length (kas_sort ps.length) = true
  size : (runK (fun i j => ltP (ps.getD i (0, 0)) (ps.getD j (0, 0))) (kas_sort ps.length)).size ≤ sizeLine
  all : ∀ i ∈ (runK (fun i j => ltP (ps.getD i (0, 0)) (ps.getD j (0, 0))) (kas_sort ps.length)).toList, i < ps.length
theorem kat_tups {h : Heap} : ∀ {ps : List (Int × Int)} {vs : List Value}, PairsAt h vs ps → ∃ fs, KatTups h vs fs ∧ fs.length = vs.length ∧ ∀ v ∈ fs, ∃ i t, v = .int i t
  | [], [], _ => ⟨[], .nil, rfl, fun v h => nomatch h⟩
  | [], _ :: _, h => nomatch h.1
  | _ :: _, [], h => nomatch h.1
  | p :: ps, v :: vs, h => by
    obtain ⟨fs, f1, f2, f3⟩ := kat_tups (ps := ps) (vs := vs) ⟨Nat.succ.inj h.1, fun i => h.2 (i + 1)⟩
    obtain ⟨a, n, t, u, rfl, g⟩ := h.2 0 v p rfl rfl
    exact ⟨.int p.1 t :: fs, .cons g rfl rfl rfl f1, congrArg (· + 1) f2, List.forall_mem_cons.mpr ⟨⟨_, _, rfl⟩, f3⟩⟩
theorem rdl_pick {h : Heap} {xs : List AV} {vs : List Value} (r : RdL h O xs vs) : ∀ (l : List Nat), (∀ i ∈ l, i < xs.length) → RdL h O (l.map fun i => xs.getD i .none) (l.map fun i => vs.getD i .none)
  | [], _ => .nil
  | i :: l, hl => by
    have hi := hl i List.mem_cons_self
    have hx : xs[i]? = some xs[i] := List.getElem?_eq_getElem hi
    obtain ⟨v, hv, hr⟩ := r.get hx
    refine .cons ?_ (rdl_pick r l fun j hj => hl j (List.mem_cons_of_mem _ hj))
    show Rd h O (xs.getD i .none) (vs.getD i .none)
    rw [List.getD_eq_getElem?_getD, List.getD_eq_getElem?_getD, hx, hv]
    exact hr
theorem fn_sortedP {ps : List (Int × Int)} (hok : SortOk ps) : FnOk l (.builtin "sorted") [.list (ps.map pairAV)] (.list ((sortP ps).map pairAV)) := fun A s O vs g hvs => hvs.oneE fun v r => r.listE fun a ws n q => by
  obtain ⟨c1, c2, c3, c4, c5⟩ := hok
  have hp := pairs_at q.2.2.2.2
  have hl : ws.toList.length = ps.length := hp.1
  generalize hbt : (fun i j => ltP (ps.getD i (0, 0)) (ps.getD j (0, 0))) = bt at *
  have hsp : (sortP ps).map pairAV = (runK bt (kas_sort ps.length)).toList.map fun i => (ps.map pairAV).getD i .none := by
    unfold sortP
    rw [hbt, List.map_map]
    refine List.map_congr_left fun i hi => ?_
    show pairAV (ps.getD i (0, 0)) = _
    rw [List.getD_eq_getElem?_getD, List.getD_eq_getElem?_getD, List.getElem?_map, List.getElem?_eq_getElem (c5 i hi)]
    rfl
  rw [hsp]
  have hlen : ((runK bt (kas_sort ps.length)).toList.map fun i => ws.toList.getD i Value.none).toArray.size ≤ sizeLine := by rw [List.size_toArray, List.length_map]; exact c4
  have fin : ∀ h', Rd h' O (.list ((runK bt (kas_sort ps.length)).toList.map fun i => (ps.map pairAV).getD i .none)) (.ref (s.heap.objs.size + 1)) → True := fun _ _ => trivial
  rw [← hl] at c1 c2 c3 c4 c5 hlen fin ⊢
  have hz : ws.toList.length ≤ sizeLine := Nat.le_trans (Nat.le_of_lt c2) (by rw [sizeLine_eq]; decide)
  refine with_size ?_
  refine Calls.call_function_entry kind_sorted plain_sorted entry_sorted (args_sorted1 _) ?_
  unfold Builtin.«sorted»
  refine wpAny_bind (m := checkCount "sorted" 1 1 _) (wpAny_pure ?_)
  refine wpAny_bind (collect_list (vs := ws.toList) ⟨_, q.2.2.1, rfl, n, by rw [Array.toArray_toList]⟩ ?_ (by exact hz))
  refine wpAny_bind (wpAny_newList ?_ (by exact hz))
  have hsz : ((s.heap.push (seqObj "list" #[] 0)).update s.heap.objs.size (Obj.mapSeq (· ++ ws.toList.toArray))).objs.size = s.heap.objs.size + 1 := by
    rw [Heap.size_update, size_push']
  show wpAny _ _ _ _ _ { s with heap := ((s.heap.push (seqObj "list" #[] 0)).update s.heap.objs.size (Obj.mapSeq (· ++ ws.toList.toArray))).push (seqObj "list" ws.toList.toArray 0) }
  rw [hsz]
  have hoL : (((s.heap.push (seqObj "list" #[] 0)).update s.heap.objs.size (Obj.mapSeq (· ++ ws.toList.toArray))).push (seqObj "list" ws.toList.toArray 0)).get? (s.heap.objs.size + 1) = some (seqObj "list" ws.toList.toArray 0) := by
    rw [← hsz]; exact Heap.get?_push_size _ rfl
  have keep : ∀ b o, s.heap.get? b = some o → b ≠ s.heap.objs.size + 1 ∧ (((s.heap.push (seqObj "list" #[] 0)).update s.heap.objs.size (Obj.mapSeq (· ++ ws.toList.toArray))).push (seqObj "list" ws.toList.toArray 0)).get? b = some o := fun b o q =>
    ⟨Nat.ne_of_lt (Nat.lt_succ_of_lt (Heap.lt_size q)), Heap.get?_push_of_some _ ((Heap.get?_update_ne _ _ _ _ (Nat.ne_of_lt (Heap.lt_size q))).trans (Heap.get?_push_of_some _ q))⟩
  have up : ∀ (S : Shared), (∀ b o, b ≠ s.heap.objs.size + 1 → (((s.heap.push (seqObj "list" #[] 0)).update s.heap.objs.size (Obj.mapSeq (· ++ ws.toList.toArray))).push (seqObj "list" ws.toList.toArray 0)).get? b = some o → S.heap.get? b = some o) → PairsAt S.heap ws.toList ps := fun S hS =>
    ⟨hp.1, fun i v p hv hp' => let ⟨x, m, t, u, e, g⟩ := hp.2 i v p hv hp'; ⟨x, m, t, u, e, hS _ _ (keep _ _ g).1 (keep _ _ g).2⟩⟩
  refine wpAny_bind (wpAny_holding (wpAny_call_entry slot_list_sort ⟨_, hoL, rfl⟩ entry_list_sort (list_sort_pairs (bt := bt) hoL c1 c2 c3 (fun S Q hS hQ => ?_) (fun S i j C hS hi hj hC => ?_) ⟨_, rfl, wpAny_pure ⟨_, rfl, ?_⟩⟩ c4) (args_list_sort _)))
  · obtain ⟨fs, f1, f2, f3⟩ := kat_tups (up S hS)
    exact kat_kind (T := .type "int") f1 (f2 ▸ Nat.lt_of_lt_of_le Nat.zero_lt_two c1) (fun v hv => by obtain ⟨i, t, rfl⟩ := f3 v hv; exact Looks.of_pure rfl) rfl hQ
  · have hps := (up S hS).2
    have hi' : i < ps.length := hl ▸ hi
    have hj' : j < ps.length := hl ▸ hj
    have eb : bt i j = ltP ps[i] ps[j] := by
      rw [← hbt]
      show ltP (ps.getD i (0, 0)) (ps.getD j (0, 0)) = _
      rw [List.getD_eq_getElem?_getD, List.getD_eq_getElem?_getD, List.getElem?_eq_getElem hi', List.getElem?_eq_getElem hj']; rfl
    rw [eb] at hC
    rw [List.getD_eq_getElem?_getD, List.getD_eq_getElem?_getD, List.getElem?_eq_getElem hi, List.getElem?_eq_getElem hj]
    exact ask_pairs (hps i _ _ (List.getElem?_eq_getElem hi) (List.getElem?_eq_getElem hi')) (hps j _ _ (List.getElem?_eq_getElem hj) (List.getElem?_eq_getElem hj')) hC
  · intro hsize
    have k : K0 s { s with heap := sortedAll s.heap ws.toList (((runK bt (kas_sort ws.toList.length)).toList.map fun i => ws.toList.getD i Value.none).toArray) } := K0.heap1 (fun b o e => sortedAll_old e) hsize
    obtain ⟨e, he⟩ := sortedAll_at s.heap ws.toList (((runK bt (kas_sort ws.toList.length)).toList.map fun i => ws.toList.getD i Value.none).toArray)
    exact ⟨k, rd_list.mpr ⟨_, _, e, rfl, fun q => Nat.not_succ_le_self _ (Nat.le_trans (g.bd _ q) (Nat.le_succ _)), Nat.ne_of_gt (Nat.lt_succ_of_lt (TA_lt g.base.tab)), he, hlen, rdl_pick (q.2.2.2.2.k0 k) (runK bt (kas_sort ws.toList.length)).toList fun i hi => by
      rw [List.length_map, ← hl]
      exact c5 i hi⟩⟩
end
section
open PySem.Builtin.Tuple
theorem lt_tree (x y : Addr) : Builtin.«tuple.__lt__» ⟨[.ref x, .ref y], []⟩ = (do
   if !(← isInstance (.ref y) (.type "tuple")) then return ← ret .notImplemented
   let xs ← tupleItemsOf (.ref x)
   let ys ← tupleItemsOf (.ref y)
   for (x, y) in xs.toList.zip ys.toList do
    if !(← eqBool x y) then
      match CmpOp.Lt with
      | .Eq => return ← ret (.bool false)
      | .NotEq => return ← ret (.bool true)
      | _ => rule "tuple.compare.by-the-first-pair-that-differs"; return ← ret (← richCompare .Lt x y)
   ret (tupleCompareSizes .Lt xs.size ys.size)) := rfl
theorem items_of {M : Model} {A : Around} {E : Value → Shared → Prop} {s : Shared} {a : Addr} {o : Obj} {xs n} {Q : Array Value → Shared → Prop} (ho : s.heap.get? a = some o) (hd : o.data = .seq xs n) (h : Q xs s) : wpAny M A (tupleItemsOf (.ref a)) Q E s := by
  unfold tupleItemsOf
  exact wpAny_bind (wpAny_seqItems ho hd (wpAny_pure h))
theorem meets_lt {x y : Addr} {n m : Nat} {a b c e : Int} {t1 t2 t3 t4 : Tok} :
  Meets (Builtin.«tuple.__lt__» ⟨[.ref x, .ref y], []⟩) (fun _ R s => s.heap.get? x = some { cls := .type "tuple", data := .seq #[.int a t1, .int b t2] n } ∧ s.heap.get? y = some { cls := .type "tuple", data := .seq #[.int c t3, .int e t4] m } ∧ R (.ok (.ret (.bool (ltP (a, b) (c, e))))) s) := by
  refine .of_wp fun prog w A R s h => ?_
  obtain ⟨hx, hy, h⟩ := h
  rw [lt_tree]
  refine wpAny_bind (wpAny_isInstance (T := "tuple") (b := true) ⟨_, hy, rfl⟩ AutoSeq1.sub_tuple_tuple ?_)
  rw [if_neg (by decide)]
  refine wpAny_bind (items_of hx rfl (wpAny_bind (items_of hy rfl ?_)))
  show wpAny (model prog w) A.in1 (forIn [(Value.int a t1, Value.int c t3), (Value.int b t2, Value.int e t4)] _ _ >>= _) _ _ s
  rw [List.forIn_cons]
  unfold ltP at h
  dsimp only at h
  refine wpAny_bind (wpAny_bind (wpAny_bind (wpAny_eqBool_int ?_)))
  by_cases h1 : a = c
  · rw [if_pos h1] at h
    rw [show (a == c) = true by rw [h1]; exact beq_self_eq_true c, if_neg (by decide)]
    refine wpAny_pure ?_
    dsimp only
    rw [List.forIn_cons]
    refine wpAny_bind (wpAny_bind (wpAny_eqBool_int ?_))
    by_cases h2 : b = e
    · rw [show (b == e) = true by rw [h2]; exact beq_self_eq_true e, if_neg (by decide)]
      refine wpAny_pure ?_
      dsimp only
      rw [List.forIn_nil]
      refine wpAny_pure ?_
      rw [show decide (b < e) = false from decide_eq_false fun z => Int.lt_irrefl _ (h2 ▸ z)] at h
      exact wpAny_pure ⟨_, rfl, h⟩
    · rw [show (b == e) = false from beq_eq_false_iff_ne.mpr h2, if_pos (by decide)]
      dsimp only
      refine wpAny_bind (wpAny_rule (wpAny_bind (PyProof.Rows.lt_int ?_)))
      exact wpAny_bind (wpAny_pure (wpAny_pure (wpAny_pure (wpAny_pure ⟨_, rfl, h⟩))))
  · rw [if_neg h1] at h
    rw [show (a == c) = false from beq_eq_false_iff_ne.mpr h1, if_pos (by decide)]
    dsimp only
    refine wpAny_bind (wpAny_rule (wpAny_bind (PyProof.Rows.lt_int ?_)))
    exact wpAny_bind (wpAny_pure (wpAny_pure (wpAny_pure (wpAny_pure ⟨_, rfl, h⟩))))
section
variable {prog : Program} {w : World} {A : Around} {R : Result → Shared → Prop} {I : Addr} {fp wr : List Addr} {n : Nat} {Pi : Nat → Value → Prop} {St : Nat → Heap → Prop} {G : Heap → Prop}
/-- a comparison that needs the heap -/
noncomputable abbrev LtIn (prog : Program) (w : World) (A : Around) (Pi : Nat → Value → Prop) (G : Heap → Prop) (bt : Nat → Nat → Bool) : Prop := ∀ i j vi vj (s : Shared) (Q : Value → Shared → Prop) (E : Value → Shared → Prop), G s.heap → Pi i vi → Pi j vj → Q (.bool (bt i j)) s → wpAny (model prog w) A.in1 (richCompare .Lt vi vj) Q E s
noncomputable abbrev KeepG (G : Heap → Prop) (wr : List Addr) (S : Addr) : Prop := ∀ h h' : Heap, G h → (∀ b o, b ∉ wr → b ≠ S → h.get? b = some o → h'.get? b = some o) → G h'
theorem min_name : (toString "min" ++ toString ".loop" : String) = "min.loop" := by decide
theorem min_loop (W : Walks prog w A.in1 I fp wr n Pi St) (bt : Nat → Nat → Bool) (S : Addr) (hSf : S ∉ fp)
    (hcmp : LtIn prog w A Pi G bt)
    (hG : KeepG G wr S) :
    ∀ (k j : Nat) (s : Shared) (vb : Value) (c : Nat), j + 1 + k = n → St (j + 1) s.heap → G s.heap → Pi (argBest bt j) vb →
    s.heap.get? S = some { cls := .type "list", dict := none, data := .seq #[vb, vb] c, slots := #[] } →
    (∀ v h' tk, Pi (argBest bt (n - 1)) v → (∀ b o, b ∉ wr → b ≠ S → s.heap.get? b = some o → h'.get? b = some o) → R (.ok (.ret v)) { s with heap := h', toks := tk }) →
    codeAny (model prog w) A (.builtin "min.loop" ⟨[.ref I, .none, .ref S], []⟩) R s := by
  have hSw : S ∉ wr := fun h => hSf (W.sub _ h)
  intro k
  induction k with
  | zero =>
    intro j s vb c hin hst hg hPb hS hR
    refine codeAny_builtin PySem.F.entry_min_loop ?_
    rw [Around.under_plainId PySem.F.plain_min_loop _]
    show wpAny _ A.in1 (seqItems? (.ref S) >>= _) _ _ s
    refine wpAny_bind (wpAny_seqItems hS rfl ?_)
    show wpAny _ A.in1 (tryCatch (pyNext (.ref I)) _ >>= _) _ _ s
    refine wpAny_bind (wpAny_tryCatch (W.done s _ _ (hin ▸ hst) fun h' tk hk' => ?_))
    have hS' := hk' S _ hSw hS
    show wpAny _ A.in1 (updateSeq S (fun _ => #[]) >>= _) _ _ _
    refine wpAny_bind ?_
    refine wpAny_updateSeq hS' rfl (wpAny_bind (wpAny_letGo (wpAny_pure ?_)))
    refine hR vb _ tk (by rw [← hin]; exact hPb) fun b o hbw hbS e => (Heap.get?_update_other _ _ (Ne.symm hbS)).trans (hk' b o hbw e)
  | succ k ih =>
    intro j s vb c hk hst hg hPb hS hR
    have hlt : j + 1 < n := hk ▸ Nat.lt_add_of_pos_right (Nat.succ_pos _)
    have hk1 : j + 1 + 1 + k = n := (Nat.add_right_comm ..).trans hk
    refine codeAny_builtin PySem.F.entry_min_loop ?_
    rw [Around.under_plainId PySem.F.plain_min_loop _]
    show wpAny _ A.in1 (seqItems? (.ref S) >>= _) _ _ s
    refine wpAny_bind (wpAny_seqItems hS rfl ?_)
    show wpAny _ A.in1 (tryCatch (pyNext (.ref I)) _ >>= _) _ _ s
    refine wpAny_bind (wpAny_tryCatch (W.item (j + 1) s _ _ hlt hst fun v h' tk hP hst' hk' => ?_))
    have hS' := hk' S _ hSw hS
    have hg' : G h' := hG _ _ hg fun b o hbw _ e => hk' b o hbw e
    show wpAny _ A.in1 (tryCatch (holding [v, v] (richCompare .Lt v vb >>= _)) _ >>= _) _ _ _
    refine wpAny_bind (wpAny_tryCatch (wpAny_holding (wpAny_bind (hcmp (j + 1) (argBest bt j) v vb _ _ _ hg' hP hPb ?_))))
    refine wpAny_bind (wpAny_holding (wpAny_truthy_bool ?_))
    refine wpAny_bind (wpAny_letGo (wpAny_pure ?_))
    cases hb : bt (j + 1) (argBest bt j) with
    | true =>
      refine wpAny_bind ?_
      refine wpAny_updateSeq hS' rfl (wpAny_bind (wpAny_letGo ?_))
      rw [min_name]
      have ku : ∀ b o, b ≠ S → h'.get? b = some o → (h'.update S (Obj.mapSeq fun _ => #[v, v])).get? b = some o := fun b o hbS e => (Heap.get?_update_other _ _ (Ne.symm hbS)).trans e
      refine wpAny_pure ⟨plainId_quiet PySem.F.plain_min_loop _, ih (j + 1) _ v _ hk1 (W.frame _ _ _ hst' fun b hbf o e => ?_) (hG _ _ hg' fun b o _ hbS e => ku b o hbS e) (by rw [argBest, hb]; exact hP) (Heap.get?_update_self _ hS' rfl)
        fun v' h'' tk'' hP' hk'' => ?_⟩
      · exact (Heap.get?_update_other _ _ (fun h : S = b => hSf (by rw [h]; exact hbf))).trans e
      · exact hR v' h'' tk'' hP' fun b o hbw hbS e => hk'' b o hbw hbS ((Heap.get?_update_other _ _ (Ne.symm hbS)).trans (hk' b o hbw e))
    | false =>
      refine wpAny_bind (wpAny_letGo ?_)
      rw [min_name]
      refine wpAny_pure ⟨plainId_quiet PySem.F.plain_min_loop _, ih (j + 1) _ vb c hk1 hst' hg' (by rw [argBest, hb]; exact hPb) hS' fun v' h'' tk'' hP' hk'' => ?_⟩
      exact hR v' h'' tk'' hP' fun b o hbw hbS e => hk'' b o hbw hbS (hk' b o hbw e)
theorem min_first (W : Walks prog w A.in1 I fp wr n Pi St) (bt : Nat → Nat → Bool) (S : Addr) (hSf : S ∉ fp)
    (hcmp : LtIn prog w A Pi G bt)
    (hG : KeepG G wr S) (hn : 0 < n) {s : Shared} {c : Nat} (hst : St 0 s.heap) (hg : G s.heap)
    (hS : s.heap.get? S = some { cls := .type "list", dict := none, data := .seq #[] c, slots := #[] })
    (hR : ∀ v h' tk, Pi (argBest bt (n - 1)) v → (∀ b o, b ∉ wr → b ≠ S → s.heap.get? b = some o → h'.get? b = some o) → R (.ok (.ret v)) { s with heap := h', toks := tk }) :
    codeAny (model prog w) A (.builtin "min.loop" ⟨[.ref I, .none, .ref S], []⟩) R s := by
  have hSw : S ∉ wr := fun h => hSf (W.sub _ h)
  refine codeAny_builtin PySem.F.entry_min_loop ?_
  rw [Around.under_plainId PySem.F.plain_min_loop _]
  show wpAny _ A.in1 (seqItems? (.ref S) >>= _) _ _ s
  refine wpAny_bind (wpAny_seqItems hS rfl ?_)
  show wpAny _ A.in1 (tryCatch (pyNext (.ref I)) _ >>= _) _ _ s
  refine wpAny_bind (wpAny_tryCatch (W.item 0 s _ _ hn hst fun v h' tk hP hst' hk' => ?_))
  have hS' := hk' S _ hSw hS
  have hg' : G h' := hG _ _ hg fun b o hbw _ e => hk' b o hbw e
  show wpAny _ A.in1 (updateSeq S (fun _ => #[v, v]) >>= _) _ _ _
  refine wpAny_bind ?_
  refine wpAny_updateSeq hS' rfl ?_
  rw [min_name]
  refine wpAny_pure ⟨plainId_quiet PySem.F.plain_min_loop _, min_loop W bt S hSf hcmp hG (n - 1) 0 _ v _ (by rw [Nat.zero_add, Nat.add_comm, Nat.sub_add_cancel hn]) (W.frame _ _ _ hst' fun b hbf o e => ?_) (hG _ _ hg' fun b o _ hbS e => (Heap.get?_update_other _ _ (Ne.symm hbS)).trans e) hP (Heap.get?_update_self _ hS' rfl) fun v' h'' tk'' hP' hk'' => ?_⟩
  · exact (Heap.get?_update_other _ _ (fun h : S = b => hSf (by rw [h]; exact hbf))).trans e
  · exact hR v' h'' tk'' hP' fun b o hbw hbS e => hk'' b o hbw hbS ((Heap.get?_update_other _ _ (Ne.symm hbS)).trans (hk' b o hbw e))
end
noncomputable def minP (ps : List (Int × Int)) : (Int × Int) := ps.getD (argBest (fun i j => ltP (ps.getD i (0, 0)) (ps.getD j (0, 0))) (ps.length - 1)) (0, 0)
theorem argBest_le (bt : Nat → Nat → Bool) : ∀ k, argBest bt k ≤ k
  | 0 => Nat.le_refl _
  | k + 1 => by
    rw [argBest]
    cases bt (k + 1) (argBest bt k)
    · exact Nat.le_succ_of_le (argBest_le bt k)
    · exact Nat.le_refl _
section
variable {l : L} {O : Addr → Prop}
theorem getP {ps : List (Int × Int)} {i : Nat} (h : i < ps.length) : ps.getD i (0, 0) = ps[i] := by rw [List.getD_eq_getElem?_getD, List.getElem?_eq_getElem h]; rfl
theorem lt_pairs {S : Shared} {A : Around} {p q : Int × Int} {x y : Value} {Q : Value → Shared → Prop} {E : Value → Shared → Prop} (hx : PairAt S.heap x p) (hy : PairAt S.heap y q) (hu : A.units < cLine) (h : Q (.bool (ltP p q)) S) : wpAny l.M A (richCompare .Lt x y) Q E S := by
  obtain ⟨x, n, t1, t2, rfl, hx⟩ := hx
  obtain ⟨y, m, t3, t4, rfl, hy⟩ := hy
  exact wpAny_richCompare_same_room (T := "tuple") ⟨_, hx, rfl⟩ ⟨_, hy, rfl⟩ PySem.F.slot_tuple_lt (call_meets PySem.F.slot_tuple_lt ⟨_, hx, rfl⟩ PySem.F.entry_tuple_lt (PySem.F.args_tuple_lt_2 _ _) meets_lt ⟨hx, hy, fun q => (nomatch q), h⟩) hu
theorem fn_minP {ps : List (Int × Int)} (hn : 0 < ps.length) : FnOk l (.builtin "min") [.list (ps.map pairAV)] (pairAV (minP ps)) := fun A s O vs g hvs => hvs.oneE fun v r => r.listE fun a ws n q => by
  have hp := pairs_at q.2.2.2.2
  have hl : ws.size = ps.length := Array.length_toList.symm.trans hp.1
  have hlt := Heap.lt_size q.2.2.1
  have hsz : (s.heap.push { cls := .type "list_iterator", data := .fields #[.ref a, .int 0 0] }).objs.size = s.heap.objs.size + 1 := Heap.size_push ..
  refine with_tk (with_size ?_)
  refine PySem.call_function_tree PySem.F.kind_min PySem.F.plain_min PySem.F.entry_min (PySem.F.args_min1 _) ?_
  show wpAny _ A.in1 (Builtin.Builtins.bindParams "min" ["key", "default"] 0 ⟨[], []⟩ >>= _) _ _ s
  refine wpAny_bind (wpAny_of_eq (show Builtin.Builtins.bindParams "min" ["key", "default"] 0 ⟨[], []⟩ = pure [none, none] from rfl) ?_)
  refine wpAny_bind (wpAny_pure ?_)
  refine wpAny_bind (wpAny_pyIter_list q.isL ?_)
  refine wpAny_bind (wpAny_newObj_type ?_)
  have W := Walks.list (prog := l.prog) (w := l.w) (A := A.in1) g.hh s.heap.objs.size a (Nat.ne_of_lt hlt) ws
  have hne : ∀ b o, s.heap.get? b = some o → b ∉ [s.heap.objs.size] ∧ b ≠ (s.heap.push { cls := .type "list_iterator", data := .fields #[.ref a, .int 0 0] }).objs.size := fun b o e =>
    ⟨fun hm => Nat.lt_irrefl _ (List.mem_singleton.mp hm ▸ Heap.lt_size e), fun q => Nat.lt_irrefl _ (Nat.lt_of_succ_lt ((q.trans hsz) ▸ Heap.lt_size e))⟩
  have hSf : (s.heap.push { cls := .type "list_iterator", data := .fields #[.ref a, .int 0 0] }).objs.size ∉ [s.heap.objs.size, a] := by
    rw [hsz]
    exact fun h => (List.mem_cons.mp h).elim (Nat.succ_ne_self _) fun h => Nat.ne_of_gt (Nat.lt_succ_of_lt hlt) (List.mem_singleton.mp h)
  rw [min_name]
  refine wpAny_pure ⟨plainId_quiet PySem.F.plain_min_loop _, min_first (G := fun h => ∀ b o, s.heap.get? b = some o → h.get? b = some o) W (fun i j => ltP (ps.getD i (0, 0)) (ps.getD j (0, 0))) _ hSf (fun i j vi vj S Q E hg hi hj hQ => ?_) (fun h h' hg hk b o e => hk b o (hne b o e).1 (hne b o e).2 (hg b o e)) (by rw [hl]; exact hn)
    ⟨⟨_, Heap.get?_push_of_some _ (Heap.get?_push_size _ rfl), rfl, rfl⟩, (q.isL.push _).push _⟩ (fun b o e => Heap.get?_push_of_some _ (Heap.get?_push_of_some _ e)) (Heap.get?_push_size _ rfl) fun v h' tk hP hk hs htk => ?_⟩
  · have i3 : i < ps.length := hl ▸ (Array.getElem?_eq_some_iff.mp hi).1
    have j3 : j < ps.length := hl ▸ (Array.getElem?_eq_some_iff.mp hj).1
    replace hQ : Q (.bool (ltP (ps.getD i (0, 0)) (ps.getD j (0, 0)))) S := hQ
    rw [getP i3, getP j3] at hQ
    have up : ∀ {v p}, PairAt s.heap v p → PairAt S.heap v p := fun ⟨x, m, t, u, e, z⟩ => ⟨x, m, t, u, e, hg _ _ z⟩
    exact lt_pairs (up (hp.2 i vi _ (Array.getElem?_toList.trans hi) (List.getElem?_eq_getElem i3))) (up (hp.2 j vj _ (Array.getElem?_toList.trans hj) (List.getElem?_eq_getElem j3))) (Nat.lt_of_le_of_lt (Nat.add_le_add_left (by decide) _) g.u100) hQ
  · have k : K0 s { s with heap := h', toks := tk } := K0.keep (fun b o e => hk b o (hne b o e).1 (hne b o e).2 (Heap.get?_push_of_some _ (Heap.get?_push_of_some _ e))) hs htk
    rw [hl] at hP
    have hbl := Nat.lt_of_le_of_lt (argBest_le (fun i j => ltP (ps.getD i (0, 0)) (ps.getD j (0, 0))) (ps.length - 1)) (Nat.sub_lt hn Nat.one_pos)
    obtain ⟨u, hu', hr⟩ := q.item (show (ps.map pairAV)[argBest (fun i j => ltP (ps.getD i (0, 0)) (ps.getD j (0, 0))) (ps.length - 1)]? = some (pairAV (minP ps)) by unfold minP; rw [List.getElem?_map, List.getElem?_eq_getElem hbl, getP hbl]; rfl)
    cases hP.symm.trans hu'
    exact ⟨k, hr.k0 k⟩
end
end
section
open PySem.W.X
noncomputable def isFz : Sl → Bool
  | .fz _ => true
  | _ => false
noncomputable def allFz (ρ : Ro) : Bool := ρ.all fun p => isFz p.2
theorem lookup_fz {ρ : Ro} {x : Str} {sl : Sl} (h : allFz ρ = true) (e : ρ.lookup x = some sl) : ∃ a, sl = .fz a := by
  have := List.all_eq_true.mp h _ (lookup_mem e)
  cases sl with
  | fz a => exact ⟨a, rfl⟩
  | own => exact Bool.noConfusion this
/-- what a generator's consumer leaves alone -/
structure Futr (h₁ : Heap) (W Og : Addr → Prop) (s s' : Shared) : Prop where
  keep : ∀ b o, b ≠ TA → (W b ∨ ¬ Og b) → s.heap.get? b = some o → s'.heap.get? b = some o
  size : s.heap.objs.size ≤ s'.heap.objs.size
  base : Base h₁ s'.heap
  tk : 0 < s'.toks
/-- the addresses that came since -/
noncomputable abbrev Since (Og : Addr → Prop) (s s' : Shared) : Addr → Prop := fun b => Og b ∨ (s.heap.objs.size ≤ b ∧ b < s'.heap.objs.size)
/-- what a generator owns, and what it may read, as it goes on -/
structure Grow (W₀ Og₀ : Addr → Prop) (s₀ : Shared) (W Og : Addr → Prop) : Prop where
  w1 : ∀ b, W b → W₀ b ∨ s₀.heap.objs.size ≤ b
  w2 : ∀ b, W₀ b → W b
  o1 : ∀ b, Og₀ b → Og b
  o2 : ∀ b, Og b → Og₀ b ∨ W b
/-- where a generator stands at a stretch's end, and what it will do -/
noncomputable def GoP (M : Model) (h : Heap) (A : Around) : List AV → (Addr → Prop) → (Addr → Prop) → Shared → End → Shared → Prop
  | [], W₀, _, s₀ => fun e s' => e = .ret (.ok (.ret .none)) ∧ Kp W₀ (fun _ => False) s₀ s'
  | x :: xs, W₀, Og₀, s₀ => fun e s' => ∃ v ls k c p fs, ∃ W' Og' : Addr → Prop, e = .susp v false ls k c p fs ∧ Kp W₀ (fun _ => False) s₀ s' ∧ Grow W₀ Og₀ s₀ W' Og' ∧ (∀ b, W' b → Og' b) ∧
      (∀ b, Og' b → b < s'.heap.objs.size) ∧ Rd s'.heap Og' x v ∧ ∀ s'', Futr h W' Og' s' s'' → SegX M A c (k (.send .none)) fs s'' (GoP M h A xs W' (Since Og' s' s'') s'')
/-- a place in a generator's body -/
structure Pc where
  A : Around
  c : Code
  fs : List Frame
  K : Flow → Sem PySem.Fin
  H : Value → Sem PySem.Fin
  gd : Bool → Bool
  lv : List Value → List Value
@[reducible] noncomputable def Pc.B (p : Pc) : Around := p.A.over p.c p.fs
structure Pl (l : L) (p : Pc) : Prop where
  hfs : splitAtGen p.fs = none
  hfg : p.fs.any Frame.guarded = false
  hgd : p.gd false = false
  h1 : p.B.handled = none
  h2 : p.B.depth + l.d < recursionLimit
  h3 : p.B.units + (100 + 20 * l.d) < cLine
/-- a stretch so far: it began in s₀, owning W, reading Og -/
structure Gs where
  W : Addr → Prop
  Og : Addr → Prop
  s₀ : Shared
  O : Addr → Prop
  Mu : Addr → Prop
  s : Shared
@[reducible] noncomputable def Pc.f (p : Pc) (env : Env) (g : Gs) : Fm := ⟨p.B, env, g.O, g.Mu⟩
structure Inv (g : Gs) : Prop where
  k : Kp g.W (fun _ => False) g.s₀ g.s
  o1 : ∀ b, g.Og b → g.O b
  o2 : ∀ b, g.O b → g.Og b ∨ g.s₀.heap.objs.size ≤ b
  wo : ∀ b, g.W b → g.Og b
  mu : ∀ b, g.Mu b → g.W b ∨ g.s₀.heap.objs.size ≤ b
noncomputable abbrev Own (g : Gs) (b : Addr) : Prop := g.W b ∨ g.s₀.heap.objs.size ≤ b
/-- from a place in a body to a later one, over the consumer's turns -/
structure Adv (g g' : Gs) : Prop where
  size : g.s.heap.objs.size ≤ g'.s.heap.objs.size
  keep : ∀ b o, b ≠ TA → ¬ g.Mu b → (¬ g.O b ∨ Own g b) → g.s.heap.get? b = some o → g'.s.heap.get? b = some o
  mu : ∀ b, g'.Mu b → g.Mu b ∨ g.s.heap.objs.size ≤ b
  o : ∀ b, g'.O b → g.O b ∨ g.s.heap.objs.size ≤ b
  st : ∀ b, g.O b → ¬ g.Mu b → g'.O b
  own : ∀ b, g.O b → Own g b → g'.O b → Own g' b
theorem Adv.refl {g : Gs} : Adv g g := ⟨Nat.le_refl _, fun _ _ _ _ _ e => e, fun _ h => .inl h, fun _ h => .inl h, fun _ h _ => h, fun _ _ h _ => h⟩
theorem lt_ge {a b c : Nat} {P : Prop} (h : a < b) (h' : c ≤ a) (h2 : b ≤ c) : P := absurd (Nat.lt_of_lt_of_le h (Nat.le_trans h2 h')) (Nat.lt_irrefl _)
theorem Adv.trans {g g' g'' : Gs} (a : Adv g g') (b : Adv g' g'') (hO : ∀ b, g.O b → b < g.s.heap.objs.size) : Adv g g'' := by
  have nMu : ∀ x, ¬ g.Mu x → x < g.s.heap.objs.size → ¬ g'.Mu x := fun x h hx q => (a.mu x q).elim h fun z => lt_ge hx z (Nat.le_refl _)
  refine ⟨Nat.le_trans a.size b.size, fun x o ht hm hc e => ?_, fun x h => (b.mu x h).elim (a.mu x) fun q => .inr (Nat.le_trans a.size q), fun x h => (b.o x h).elim (a.o x) fun q => .inr (Nat.le_trans a.size q), fun x h hm => b.st x (a.st x h hm) (nMu x hm (hO x h)), fun x h hw h2 => ?_⟩
  · have hlt : x < g.s.heap.objs.size := Heap.lt_size e
    refine b.keep x o ht (nMu x hm hlt) ?_ (a.keep x o ht hm hc e)
    by_cases hx : g.O x
    · exact .inr (a.own x hx (hc.resolve_left fun q => q hx) (a.st x hx hm))
    · exact .inl fun q => (a.o x q).elim hx fun z => lt_ge hlt z (Nat.le_refl _)
  · have hx' : g'.O x := by
      by_cases hm : g.Mu x
      · exact (b.o x h2).elim id fun q => lt_ge (hO x h) q a.size
      · exact a.st x h hm
    exact b.own x hx' (a.own x h hw hx') h2
section
variable {l : L} {cx : Cx} {ρ ρ' ρ1 ρ2 : Ro} {p : Pc} {env : Env} {g g' : Gs} {s s' : Shared}
/-- a place, with its frame -/
structure At (l : L) (cx : Cx) (p : Pc) (env : Env) (ρ : Ro) (g : Gs) : Prop where
  act : Act l cx (p.f env g) ρ g.s
  inv : Inv g
  cl : ∀ n c, env.cells.lookup n = some c → Own g c
noncomputable abbrev Sx (l : L) (p : Pc) (t : Sem PySem.Fin) (s : Shared) (xs : List AV) (g : Gs) : Prop := SegX l.M p.A p.c t p.fs s (GoP l.M l.h p.A xs g.W g.Og g.s₀)
/-- a body, or a statement, with what comes behind it -/
structure Gn (l : L) (cx : Cx) (ρ : Ro) (run : Env → Sem Flow) (ρ' : Ro) (ys : List AV) : Prop where
  ok : ∀ p env g xs, Pl l p → At l cx p env ρ g →
  (∀ g', At l cx p env ρ' g' → Adv g g' → Sx l p (p.K .next) g'.s xs g') → Sx l p ((run env).wrap p.K p.H p.gd p.lv) g.s (ys ++ xs) g
theorem sx_wrap {α : Type} {m : Sem α} {K : α → Sem PySem.Fin} {H : Value → Sem PySem.Fin} {gd lv A c fs PP} (h : wpAny l.M (A.over c fs) m (fun a s' => SegX l.M A c (K a) fs s' PP) NoE s) : SegX l.M A c (m.wrap K H gd lv) fs s PP := by
  rintro Γ p rfl hΓ
  obtain ⟨e, s', hr, hq⟩ := runs_wrap_of_wp (Φ := fun e s' => e.quiet = true ∧ PP e s') K H gd lv m (h (Γ.over fs) p (hΓ.over fs)) (fun a p' s' h' => h' Γ p' rfl hΓ) (fun x p' s' h' => h'.elim)
  exact ⟨e, s', hr, hq⟩
/-- a stretch goes on by a step of the body -/
@[reducible] noncomputable def Gs.to (g : Gs) (O' Mu' : Addr → Prop) (s' : Shared) : Gs := ⟨g.W, g.Og, g.s₀, O', Mu', s'⟩
theorem Adv.step {O' Mu' : Addr → Prop} (st : StepR g.O g.Mu O' Mu' g.s s') : Adv g (g.to O' Mu' s') :=
  ⟨st.k.size, fun b o ht hm _ e => st.k.heap b o ht hm e, st.mu, st.o, st.st, fun _ _ h _ => h⟩
theorem At.adv (a : At l cx p env ρ g) (v : Adv g g') (i : Inv g') (a' : Act l cx (p.f env g') ρ' g'.s) : At l cx p env ρ' g' := ⟨a', i, fun n c h => v.own c (a.act.en.cells n c h).1 (a.cl n c h) (a'.en.cells n c h).1⟩
theorem Inv.kp {O' Mu' X : Addr → Prop} (i : Inv g) (k : Kp X (fun _ => False) g.s s') (hX : ∀ b, X b → Own g b) (h1 : ∀ b, g.Og b → O' b) (h2 : ∀ b, O' b → g.Og b ∨ g.s₀.heap.objs.size ≤ b) (h3 : ∀ b, Mu' b → Own g b) : Inv (g.to O' Mu' s') :=
  ⟨Kp.mono (W := fun b => Own g b) (G := fun _ => False) ((i.k.mono (fun b h => .inl (.inl h)) fun _ h => h.elim).trans (k.mono (fun b h => .inl (hX b h)) fun _ h => h.elim)) (fun b h => h.elim .inl fun q => .inr (get_none q)) fun _ h => h.elim, h1, h2, i.wo, h3⟩
/-- the frame alone written -/
theorem At.same (a : At l cx p env ρ g) (k : Kp g.Mu (fun _ => False) g.s s') (a' : Act l cx (p.f env g) ρ' s') : At l cx p env ρ' (g.to g.O g.Mu s') ∧ Adv g (g.to g.O g.Mu s') :=
  ⟨a.adv (Adv.step (.of k)) (a.inv.kp k a.inv.mu a.inv.o1 a.inv.o2 a.inv.mu) a', .step (.of k)⟩
theorem gn_nil : Gn l cx ρ (execs []) ρ [] := .mk fun p env g xs pl a k => k g a .refl
theorem gn_cons {st : Stmt} {rest : List Stmt} {ys zs us} (h1 : Gn l cx ρ (exec st) ρ1 ys) (h2 : Gn l cx ρ1 (execs rest) ρ2 zs) (hu : ys ++ zs = us) : Gn l cx ρ (execs (st :: rest)) ρ2 us := .mk fun p env g xs pl a k => by
  subst hu
  unfold Sx
  rw [execs_cons_wrap, List.append_assoc]
  exact h1.ok ⟨p.A, p.c, p.fs, fun f => match f with | .next => (execs rest env).wrap p.K p.H p.gd p.lv | f => p.K f, p.H, p.gd, p.lv⟩ env g (zs ++ xs) ⟨pl.hfs, pl.hfg, pl.hgd, pl.h1, pl.h2, pl.h3⟩ ⟨a.act, a.inv, a.cl⟩ fun g' a' v =>
    h2.ok p env g' xs pl ⟨a'.act, a'.inv, a'.cl⟩ fun g2 a2 v2 => k g2 a2 (v.trans v2 a.act.en.bound)
/-- a frame of plain values, after its consumer's turn -/
theorem Act.woken {f : Fm} {W' : Addr → Prop} {s'' : Shared} (a : Act l cx f ρ s) (hfz : allFz ρ = true) (F : Futr l.h W' f.O s s'') (hMu : ∀ b, f.Mu b → W' b) (hc : ∀ n c, f.env.cells.lookup n = some c → W' c) : Act l cx (f.up (Since f.O s s'') f.Mu) ρ s'' := by
  have keep : ∀ b o, s.heap.get? b = some o → b = f.env.locals ∨ (∃ n, f.env.cells.lookup n = some b) → s''.heap.get? b = some o := fun b o e hb =>
    F.keep b o (Mem_ne_TA a.en hb) (.inl (hb.elim (fun q => q ▸ hMu _ a.en.muL) fun ⟨n, q⟩ => hc n b q)) e
  refine ⟨a.sc, a.hh, a.dep, a.uni, F.tk, F.base, { a.en with
    ns := a.en.ns.elim fun m hn => ⟨m, Heap.Ns.get hn fun o e => keep _ o e (.inl rfl)⟩
    cells := fun n c hcn => let ⟨e1, e2, e3, v, o, ho, hd⟩ := a.en.cells n c hcn; ⟨.inl e1, e2, e3, v, o, keep _ o ho (.inr ⟨n, hcn⟩), hd⟩
    muO := fun b hb => .inl (a.en.muO b hb)
    bound := fun b hb => hb.elim (fun q => Nat.lt_of_lt_of_le (a.en.bound b q) F.size) fun q => q.2 }, fun x sl hx => ?_, fun x y xs ys v hne hx => nomatch (lookup_fz hfz hx)⟩
  obtain ⟨v, hv, hs⟩ := a.fr.at_ x sl hx
  obtain ⟨y, rfl⟩ := lookup_fz hfz hx
  exact ⟨v, hv.mono keep, Rd.move (fun b o e1 e2 e3 => ⟨F.keep b o e1 (.inr e2) e3, fun q => q.elim e2 fun z => lt_ge (Heap.lt_size e3) z.1 (Nat.le_refl _)⟩) hs⟩
theorem sx_at {A c fs PP} {p' : Pos} {k : Unit → Sem PySem.Fin} (h : SegX l.M A c (k ()) fs s PP) : SegX l.M A c (.at p' k) fs s PP :=
  sx_wrap (m := standAt p') (K := k) (H := .raise) (gd := id) (lv := id) (wpAny_standAt h)
theorem sx_yield {A c fs PP v gg ls} {k : Resume → Sem PySem.Fin} (hfs : splitAtGen fs = none) (hg : gg = false) (hfg : fs.any Frame.guarded = false) (x : ∀ p, PP (.susp v false ls k c p fs) s) : SegX l.M A c (.yield v gg ls k) fs s PP := by
  subst hg
  exact s_yield l.prog l.w A c fs PP s v ls k hfs hfg x
theorem gn_yield {e : Expr} {ypos pos : Pos} {x} (hco : cx.sc.isCoroutine = false) (hfz : allFz ρ = true) (he : EV l cx ρ e x) : Gn l cx ρ (exec (.Expr (.Yield (some e) ypos) pos)) ρ [x] := .mk fun p env g xs pl a k => by
  have hint : interactive env = false := by unfold interactive; rw [a.act.en.kind]; rfl
  unfold Sx
  rw [exec_Expr env _ pos hint rfl]
  show SegX l.M p.A p.c (.at pos fun _ => ((eval e env >>= fun v => (standAt ypos >>= fun _ => yieldOut env v)) >>= fun x =>
    dropValue (.Yield (some e) ypos) pos x).wrap p.K p.H p.gd p.lv) p.fs g.s _
  have hy : ∀ v, yieldOut env v = yieldValue v := fun v => if_neg (by rw [show env.scope.isCoroutine = false from (congrArg Scope.isCoroutine a.act.sc).trans hco]; decide)
  simp only [hy]
  refine sx_at ?_
  rw [Sem.bind_eq_wrap', Sem.bind_eq_wrap', Sem.wrap_wrap, Sem.wrap_wrap]
  refine sx_wrap (wpAny_mono (he.ok (p.f env g) g.s a.act) (fun v s' q => ?_) fun _ _ x => x)
  refine sx_at ?_
  refine sx_yield pl.hfs pl.hgd pl.hfg fun pp => ?_
  have a' := a.act.k0 q.1
  refine ⟨v, _, _, p.c, pp, p.fs, fun b => g.O b ∧ Own g b, g.O, rfl, a.inv.k.trans q.1.toW, ⟨fun b h => h.2, fun b h => ⟨a.inv.o1 b (a.inv.wo b h), .inl h⟩, a.inv.o1, fun b h => (a.inv.o2 b h).elim .inl fun q => .inr ⟨h, .inr q⟩⟩, fun b h => h.1, a'.en.bound, q.2, fun s'' F => ?_⟩
  have hMu : ∀ b, g.Mu b → g.O b ∧ Own g b := fun b h => ⟨a.act.en.muO b h, a.inv.mu b h⟩
  have sz := q.1.size
  refine k ⟨fun b => g.O b ∧ Own g b, Since g.O s' s'', s'', Since g.O s' s'', g.Mu, s''⟩ ⟨a'.woken hfz F hMu fun n c h => ⟨(a.act.en.cells n c h).1, a.cl n c h⟩, ⟨Kp.refl, fun b h => h, fun b h => .inl h, fun b h => .inl h.1, fun b h => .inl (hMu b h)⟩, fun n c h => .inl ⟨(a.act.en.cells n c h).1, a.cl n c h⟩⟩
    ⟨Nat.le_trans sz F.size, fun b o ht hm hb e => ?_, fun b h => .inl h, fun b h => h.elim .inl fun z => .inr (Nat.le_trans sz z.1), fun b h _ => .inl h, fun b h hw _ => .inl ⟨h, hw⟩⟩
  refine F.keep b o ht ?_ (q.1.heap b o ht (fun h => h) e)
  by_cases hO : g.O b
  · exact .inl ⟨hO, hb.resolve_left fun q => q hO⟩
  · exact .inr hO
theorem gn_asg {x : Str} {np pos : Pos} {value : Expr} {v} (hg : (valOk value && canStore cx x) = true) (he : EV l cx ρ value v) (hp : put ρ x (.fz v) = ρ1) : Gn l cx ρ (exec (.Assign [.Name x np] value pos)) ρ1 [] := .mk fun p env g xs pl a k => by
  subst hp
  have hg := Bool.and_eq_true_iff.mp hg
  have hsw : swapsWith value (some (.Name x np)) pos.line env = pure false := by cases value <;> first | rfl | exact Bool.noConfusion hg.1
  refine sx_wrap (wpAny_Assign_Name (he.go (f := p.f env g) a.act .refl fun u s₁ k1 _ r => bindF_ok (f := p.f env g) (a.act.k0 k1) hg.2 r fun s' q => ?_) hsw)
  have z := a.same (q.pre k1).1 q.2
  exact k _ z.1 z.2
theorem gn_if {t : Expr} {b e : List Stmt} {pos : Pos} {c ys} (ht : TV l cx ρ t c) (hb : Gn l cx ρ (execs (pick c b e)) ρ' ys) : Gn l cx ρ (exec (.If t b e pos)) ρ' ys := .mk fun p env g xs pl a k => by
  unfold Sx
  rw [exec_If, Sem.bind_eq_wrap', Sem.wrap_wrap]
  refine sx_wrap (wpAny_standAt ?_)
  rw [Sem.bind_eq_wrap', Sem.wrap_wrap]
  refine sx_wrap (ht.go (f := p.f env g) a.act .refl fun s' k1 _ => ?_)
  have z := a.same (s' := s') k1.toW (a.act.k0 k1)
  have fin := hb.ok p env _ xs pl z.1 fun g' a' v => k g' a' (z.2.trans v a.act.en.bound)
  cases c <;> exact fin
end
end
section
open PySem.W.X
/-- an iterable inside a generator: made in one place, walked in another -/
structure GI (l : L) (cx : Cx) (ρ : Ro) (tgt e : Expr) (xs : List AV) : Prop where
  ns : isSet e = false
  ev : ∀ f s, Act l cx f ρ s → wpAny l.M f.A (eval e f.env) (fun x s₁ => wpAny l.M f.A (pyIter x) (HIts l tgt xs f.O f.O s) NoE s₁) NoE s
inductive GnFor (l : L) (cx : Cx) (body : List Stmt) (tgt : Expr) : Ro → List AV → Ro → List AV → Prop
  | nil {ρ} : GnFor l cx body tgt ρ [] ρ []
  | cons {ρ ρ1 ρ2 ρ3 x xs ys zs} : AsgT cx ρ tgt x ρ1 → Gn l cx ρ1 (execs body) ρ2 ys → GnFor l cx body tgt ρ2 xs ρ3 zs → GnFor l cx body tgt ρ (x :: xs) ρ3 (ys ++ zs)
section
variable {l : L} {cx : Cx} {ρ ρ' : Ro} {p : Pc} {env : Env} {g gb : Gs} {s s' : Shared}
/-- the loop's own place -/
@[reducible] noncomputable def Pc.lp (p : Pc) (tgt : Expr) (it : Value) (body : List Stmt) (env : Env) (kk : Result → Sem PySem.Fin) (ls : List Value) (pp : Pos) (K : Flow → Sem PySem.Fin) (H : Value → Sem PySem.Fin) (gd : Bool → Bool) (lv : List Value → List Value) : Pc :=
  ⟨p.A, .forLoop tgt it body [] env, .ret kk none (p.gd false) ls p.c pp [] :: p.fs, K, H, gd, lv⟩
theorem Pl.inner {tgt it body env kk ls pp K H gd lv} (pl : Pl l p) (hgd : gd false = false) : Pl l (p.lp tgt it body env kk ls pp K H gd lv) where
  hfs := by show (splitAtGen p.fs).map _ = none; rw [pl.hfs]; rfl
  hfg := by rw [List.any_cons, pl.hfg]; show (p.gd false || false) = false; rw [pl.hgd]; rfl
  hgd := hgd
  h1 := pl.h1
  h2 := by
    refine Nat.lt_of_le_of_lt (Nat.le_of_eq ?_) pl.h2
    show p.A.depth + frameCount ((p.c, pp) :: p.fs.map Frame.where_) + 0 + l.d = p.A.depth + frameCount (p.fs.map Frame.where_) + p.c.weight + l.d
    rw [frameCount_cons, Nat.add_zero, Nat.add_comm p.c.weight, ← Nat.add_assoc]
  h3 := by
    refine Nat.lt_of_le_of_lt (Nat.le_of_eq ?_) pl.h3
    show p.A.units + unitsOf ((p.c, pp) :: p.fs.map Frame.where_) + 0 + (100 + 20 * l.d) = p.A.units + unitsOf (p.fs.map Frame.where_) + p.c.cUnits + (100 + 20 * l.d)
    rw [unitsOf_cons, Nat.add_zero, Nat.add_comm p.c.cUnits, Nat.add_assoc p.A.units (unitsOf _) p.c.cUnits]
theorem Act.re {f : Fm} {A' : Around} (a : Act l cx f ρ s) (h1 : A'.handled = none) (h2 : A'.depth + l.d < recursionLimit) (h3 : A'.units + (100 + 20 * l.d) < cLine) : Act l cx ⟨A', f.env, f.O, f.Mu⟩ ρ s := ⟨a.sc, h1, h2, h3, a.tk, a.base, a.en, a.fr⟩
theorem At.re {p' : Pc} (a : At l cx p env ρ g) (pl : Pl l p') : At l cx p' env ρ g := ⟨a.act.re pl.h1 pl.h2 pl.h3, a.inv, a.cl⟩
/-- the loop's fixed facts: its iterator's addresses, what was hidden and written as it began -/
structure LpF (l : L) (gb : Gs) (env : Env) (Win Oin : Addr → Prop) (sin : Shared) : Prop where
  new : ∀ b, Win b → gb.s.heap.objs.size ≤ b ∧ b < sin.heap.objs.size
  hid : ∀ b, Win b → ¬ gb.Mu b ∧ b ≠ env.locals ∧ (∀ n, env.cells.lookup n ≠ some b) ∧ l.h.objs.size ≤ b
  bd : ∀ b, gb.O b → b < gb.s.heap.objs.size
/-- a generator's loop under way -/
structure GLoop (l : L) (cx : Cx) (p : Pc) (env : Env) (gb : Gs) (Win Oin : Addr → Prop) (sin : Shared) (St : Nat → Heap → Prop) (i : Nat) (ρ : Ro) (g : Gs) : Prop where
  at_ : At l cx p env ρ g
  st : St i g.s.heap
  sz : sin.heap.objs.size ≤ g.s.heap.objs.size
  o : ∀ b, g.O b → Oin b ∨ Win b ∨ sin.heap.objs.size ≤ b
  w : ∀ b, Win b → g.O b ∧ Own g b
  mu : ∀ b, g.Mu b → gb.Mu b ∨ sin.heap.objs.size ≤ b
  adv : Adv gb g
variable {Win Oin : Addr → Prop} {sin : Shared} {St : Nat → Heap → Prop} {i : Nat}
theorem GLoop.nMu (F : LpF l gb env Win Oin sin) (G : GLoop l cx p env gb Win Oin sin St i ρ g) (b : Addr) (hb : Win b) : ¬ g.Mu b := fun q => (G.mu b q).elim (F.hid b hb).1 fun z => lt_ge (F.new b hb).2 z (Nat.le_refl _)
/-- an item drawn -/
theorem GLoop.drawn (F : LpF l gb env Win Oin sin) (G : GLoop l cx p env gb Win Oin sin St i ρ g) {j : Nat} (k : Kp Win (fun _ => False) g.s s') (hS : St j s'.heap) : GLoop l cx p env gb Win Oin sin St j ρ (g.to g.O g.Mu s') :=
  ⟨⟨G.at_.act.kpX k fun b hb => ⟨(G.w b hb).1, G.nMu F b hb, (F.hid b hb).2.1, (F.hid b hb).2.2.1, (F.hid b hb).2.2.2⟩, G.at_.inv.kp k (fun b hb => (G.w b hb).2) G.at_.inv.o1 G.at_.inv.o2 G.at_.inv.mu, G.at_.cl⟩, hS, Nat.le_trans G.sz k.size, G.o, G.w, G.mu,
    ⟨Nat.le_trans G.adv.size k.size, fun b o ht hm hc e => k.heap b o ht (fun q => lt_ge (Heap.lt_size e) (F.new b q).1 (Nat.le_refl _)) (G.adv.keep b o ht hm hc e), G.adv.mu, G.adv.o, G.adv.st, G.adv.own⟩⟩
/-- a turn of the body -/
theorem GLoop.turn {g' : Gs} (F : LpF l gb env Win Oin sin) (G : GLoop l cx p env gb Win Oin sin St i ρ g) (v : Adv g g') (a' : At l cx p env ρ' g')
    (stay : ∀ i h h', St i h → (∀ b o, b < sin.heap.objs.size → b ≠ TA → (¬ Oin b ∨ Win b) → h.get? b = some o → h'.get? b = some o) → St i h') : GLoop l cx p env gb Win Oin sin St i ρ' g' := by
  have hw : ∀ b, Win b → g'.O b := fun b hb => v.st b (G.w b hb).1 (G.nMu F b hb)
  refine ⟨a', stay i _ _ G.st fun b o hb ht hbw e => v.keep b o ht (fun q => ?_) ?_ e, Nat.le_trans G.sz v.size, fun b h => (v.o b h).elim (G.o b) fun q => .inr (.inr (Nat.le_trans G.sz q)), fun b hb => ⟨hw b hb, v.own b (G.w b hb).1 (G.w b hb).2 (hw b hb)⟩,
    fun b h => (v.mu b h).elim (G.mu b) fun q => .inr (Nat.le_trans G.sz q), G.adv.trans v F.bd⟩
  · have nw : ¬ Win b := fun z => G.nMu F b z q
    exact hbw.elim (fun z => (G.o b (G.at_.act.en.muO b q)).elim z fun y => y.elim nw fun y => lt_ge hb y (Nat.le_refl _)) nw
  · by_cases hO : g.O b
    · exact .inr (hbw.elim (fun z => (G.o b hO).elim (fun y => absurd y z) fun y => y.elim (fun y => (G.w b y).2) fun y => lt_ge hb y (Nat.le_refl _)) fun z => (G.w b z).2)
    · exact .inl hO
theorem gnFor_ok {tgt it body kk ls pp} {items xs ys : List AV} {rest : List AV} (pl : Pl l p) (hI : IsIter l (p.A.over (.forLoop tgt it body [] env) (.ret kk none (p.gd false) ls p.c pp [] :: p.fs)) tgt it items Win (fun _ => False) Oin Oin sin fun i t => St i t.heap) (hkk : kk (.ok .next) = p.K .next) (F : LpF l gb env Win Oin sin)
    (k : ∀ g', At l cx p env ρ' g' → Adv gb g' → Sx l p (p.K .next) g'.s xs g') (he : GnFor l cx body tgt ρ rest ρ' ys) : ∀ {i : Nat} {g : Gs}, items.drop i = rest → i ≤ items.length → GLoop l cx p env gb Win Oin sin St i ρ g →
      SegX l.M p.A (.forLoop tgt it body [] env) (l.M.den (.forLoop tgt it body [] env)) (.ret kk none (p.gd false) ls p.c pp [] :: p.fs) g.s (GoP l.M l.h p.A (ys ++ xs) g.W g.Og g.s₀) := by
  have stay : ∀ i h h', St i h → (∀ b o, b < sin.heap.objs.size → b ≠ TA → (¬ Oin b ∨ Win b) → h.get? b = some o → h'.get? b = some o) → St i h' := fun i h h' st hk =>
    hI.stay i { sin with heap := h } { sin with heap := h' } st ⟨fun b o h1 h2 h3 e => hk b o h1 h3 (.inl h2) e, fun _ _ _ e => e⟩
  induction he with
  | nil =>
    intro i g hr hi G
    cases Nat.le_antisymm hi (List.drop_eq_nil_iff.mp hr)
    show SegX _ p.A _ ((forTurn tgt it body [] env).onRaise _) _ g.s _
    unfold forTurn
    rw [Sem.onRaise_eq_wrap, Sem.bind_eq_wrap', Sem.wrap_wrap]
    refine sx_wrap (wpAny_standAt ?_)
    rw [Sem.bind_eq_wrap', Sem.wrap_wrap]
    refine sx_wrap (wpAny_onRaise (wpAny_mono (hI.done g.s G.st G.at_.act.base) (fun r s' q => ?_) fun _ _ z => z.elim))
    obtain ⟨rfl, k'⟩ := q
    refine s_again l.prog l.w p.A _ _ _ s' (.block [] env) rfl ?_
    refine s_pop l.prog l.w p.A _ p.fs _ s' (.ok .next) _ (by rfl) kk none (p.gd false) ls p.c pp [] ?_
    rw [hkk]
    have G' : GLoop l cx p env gb Win Oin sin (fun _ _ => True) 0 _ (g.to g.O g.Mu s') := GLoop.drawn (St := fun _ _ => True) (i := 0) F ⟨G.at_, trivial, G.sz, G.o, G.w, G.mu, G.adv⟩ k' trivial
    exact k _ G'.at_ G'.adv
  | cons h1 h2 h3 ih =>
    intro i g hr hi G
    have hd := drop_more hr
    have hx : items[i]? = some _ := (List.getElem?_drop (i := i) (j := 0)).symm.trans (by rw [hr]; rfl)
    show SegX _ p.A _ ((forTurn tgt it body [] env).onRaise _) _ g.s _
    unfold forTurn
    rw [Sem.onRaise_eq_wrap, Sem.bind_eq_wrap', Sem.wrap_wrap]
    refine sx_wrap (wpAny_standAt ?_)
    rw [Sem.bind_eq_wrap', Sem.wrap_wrap]
    refine sx_wrap (wpAny_onRaise (wpAny_mono (hI.item i _ g.s hx G.st G.at_.act.base G.sz) (fun r s3 q3 => ?_) fun _ _ z => z.elim))
    obtain ⟨v, rfl, q3⟩ := q3
    dsimp only
    rw [Sem.bind_eq_wrap', Sem.wrap_wrap]
    refine sx_wrap (wpAny_mono q3 (fun _ s4 q4 => ?_) fun _ _ z => z)
    obtain ⟨hrd, hSt', hk⟩ := q4
    have G4 := G.drawn F hk hSt'
    rw [Sem.bind_eq_wrap', Sem.wrap_wrap]
    have pl' := pl.inner (tgt := tgt) (it := it) (body := body) (env := env) (kk := kk) (ls := ls) (pp := pp) (K := p.K) (H := p.H) (gd := id) (lv := id) rfl
    refine sx_wrap (wpAny_mono (asg_ok (f := (p.lp tgt it body env kk ls pp p.K p.H id id).f env (g.to g.O g.Mu s4)) h1 (G4.at_.re pl').act (hrd.up fun b hb => (G.o b hb).elim .inl fun q => q.elim (fun q => .inr (.inl q)) fun q => .inr (.inr ⟨q, G.at_.act.en.bound b hb⟩))) (fun _ s5 q5 => ?_) fun _ _ z => z)
    have z5 := G4.at_.same q5.1 (q5.2.re pl.h1 pl.h2 pl.h3)
    have G5 := G4.turn F z5.2 z5.1 stay
    rw [Sem.bind_eq_wrap', Sem.wrap_wrap, List.append_assoc]
    refine h2.ok (p.lp tgt it body env kk ls pp _ _ _ _) env _ _ (pl.inner rfl) (G5.at_.re (pl.inner rfl)) fun g6 a6 v6 => ?_
    refine s_again l.prog l.w p.A _ _ _ g6.s (.forLoop tgt it body [] env) rfl ?_
    exact ih k hd.2 hd.1 (G5.turn F v6 (a6.re pl) stay)
theorem gn_for {tgt iter : Expr} {body : List Stmt} {pos : Pos} {items ys : List AV} (hi : GI l cx ρ tgt iter items) (he : GnFor l cx body tgt ρ items ρ' ys) : Gn l cx ρ (exec (.For tgt iter body [] pos)) ρ' ys := .mk fun p env g xs pl a k => by
  unfold Sx
  rw [exec_For, Sem.bind_eq_wrap', Sem.wrap_wrap]
  refine sx_wrap (wpAny_standAt ?_)
  rw [Sem.bind_eq_wrap', Sem.wrap_wrap]
  refine sx_wrap (wpAny_mono (hi.ev (p.f env g) g.s a.act) (fun v s₁ q1 => ?_) fun _ _ z => z)
  rw [Sem.bind_eq_wrap', Sem.wrap_wrap]
  refine sx_wrap (wpAny_of_eq (noFold hi.ns v) ?_)
  rw [Sem.bind_eq_wrap', Sem.wrap_wrap]
  refine sx_wrap (wpAny_standAt ?_)
  rw [Sem.bind_eq_wrap', Sem.wrap_wrap]
  refine sx_wrap (wpAny_holding (wpAny_mono q1 (fun it s₂ q2 => ?_) fun _ _ z => z))
  obtain ⟨k2, W, St, hW, hH⟩ := q2
  refine s_call l.prog l.w p.A p.c p.fs _ s₂ (.forLoop tgt it body [] env) none (p.gd false) (p.lv []) _ fun pp => ?_
  have hH' := fun kk => hH (p.A.over (.forLoop tgt it body [] env) (.ret kk none (p.gd false) (p.lv []) p.c pp [] :: p.fs)) (pl.inner (tgt := tgt) (it := it) (body := body) (env := env) (kk := kk) (ls := p.lv []) (pp := pp) (K := p.K) (H := p.H) (gd := id) (lv := id) rfl).h1
  have hWb : ∀ b, W b → g.s.heap.objs.size ≤ b ∧ b < s₂.heap.objs.size := fun b hb => ⟨hW b hb, (hH' fun _ => .unsupported "").low b hb⟩
  have aa := a.act.addO k2 hWb
  refine gnFor_ok (gb := g) (St := St) pl (hH' _) rfl ⟨hWb, fun b hb => ⟨fun q => a.act.inO (hW b hb) (a.act.en.muO b q), fun q => a.act.inO (hW b hb) (q ▸ a.act.en.muO _ a.act.en.muL), fun n q => a.act.inO (hW b hb) (a.act.en.cells n b q).1, Nat.le_trans a.act.low (hW b hb)⟩, a.act.en.bound⟩ k he (i := 0) (g := g.to (fun b => g.O b ∨ W b) g.Mu s₂) rfl (Nat.zero_le _) ?_
  have own : ∀ b, W b → Own g b := fun b h => .inr (Nat.le_trans a.inv.k.size (hW b h))
  exact ⟨⟨aa, a.inv.kp k2 (fun _ h => h.elim) (fun b h => .inl (a.inv.o1 b h)) (fun b h => h.elim (a.inv.o2 b) fun q => .inr (Nat.le_trans a.inv.k.size (hW b q))) a.inv.mu, a.cl⟩, (hH' fun _ => .unsupported "").start, Nat.le_refl _, fun b h => h.elim .inl fun q => .inr (.inl q), fun b h => ⟨.inr h, own b h⟩, fun b h => .inl h,
    ⟨k2.size, fun b o ht _ _ e => k2.heap b o ht (fun h => h) e, fun b h => .inl h, fun b h => h.elim .inl fun q => .inr (hW b q), fun b h _ => .inl h, fun b _ h _ => h⟩⟩
end
end
section
open PySem.W.X
theorem SegX.monoQ {M : Model} {A : Around} {c : Code} {t : Sem PySem.Fin} {fs : List Frame} {s : Shared} {P P' : End → Shared → Prop} (x : SegX M A c t fs s P) (h : ∀ e s', e.quiet = true → P e s' → P' e s') : SegX M A c t fs s P' := fun Γ p hc hΓ => by
  obtain ⟨e, s', hr, hq, hp⟩ := x Γ p hc hΓ
  exact ⟨e, s', hr, hq, h e s' hq hp⟩
/-- a generator's state, and what it goes on with -/
noncomputable def Stands (gs : GenState) (c : Code) (t : Sem PySem.Fin) (fs : List Frame) : Prop :=
  (gs = .fresh c ∧ Resume.send Value.none = .send .none ∧ t = denote table c ∧ fs = []) ∨ ∃ k₀ l₀ p₀ cl, gs = .suspended k₀ l₀ c p₀ fs cl ∧ t = k₀ (.send .none)
/-- a generator that will hand out xs -/
structure GSt (M : Model) (h : Heap) (A : Around) (a : Addr) (g : Nat) (xs : List AV) (W Og : Addr → Prop) (s : Shared) : Prop where
  gen : s.heap.IsGen a g
  ta : a ≠ TA
  na : ¬ Og a
  wo : ∀ b, W b → Og b
  bd : ∀ b, Og b → b < s.heap.objs.size
  run : ∃ gs, s.gens[g]? = some gs ∧ ∀ s'', Futr h W Og s s'' → ∃ c t fs, Stands gs c t fs ∧ SegX M A c t fs s'' (GoP M h A xs W (Since Og s s'') s'')
section
variable {l : L} {A : Around} {s s' s'' : Shared} {a : Addr} {g : Nat} {xs : List AV} {W Og : Addr → Prop}
theorem Futr.trans (x : Futr l.h W Og s s') (y : Futr l.h W (Since Og s s') s' s'') : Futr l.h W Og s s'' :=
  ⟨fun b o ht hx e => y.keep b o ht (hx.elim .inl fun q => .inr fun z => z.elim q fun y => lt_ge (Heap.lt_size e) y.1 (Nat.le_refl _)) (x.keep b o ht hx e), Nat.le_trans x.size y.size, y.base, y.tk⟩
theorem Since.trans (h1 : s.heap.objs.size ≤ s'.heap.objs.size) (h2 : s'.heap.objs.size ≤ s''.heap.objs.size) : Since (Since Og s s') s' s'' = Since Og s s'' := funext fun b => propext
  ⟨fun q => q.elim (fun q => q.elim .inl fun q => .inr ⟨q.1, Nat.lt_of_lt_of_le q.2 h2⟩) fun q => .inr ⟨Nat.le_trans h1 q.1, q.2⟩,
   fun q => q.elim (fun q => .inl (.inl q)) fun q => (Nat.lt_or_ge b s'.heap.objs.size).elim (fun z => .inl (.inr ⟨q.1, z⟩)) fun z => .inr ⟨z, q.2⟩⟩
theorem Since.none (h : s'.heap.objs.size = s.heap.objs.size) : Since Og s s' = Og := funext fun b => propext ⟨fun q => q.elim id fun z => lt_ge (h ▸ z.2) z.1 (Nat.le_refl _), .inl⟩
theorem GSt.stay (h : GSt l.M l.h A a g xs W Og s) (F : Futr l.h W Og s s') (hg : s'.gens[g]? = s.gens[g]?) : GSt l.M l.h A a g xs W (Since Og s s') s' := by
  obtain ⟨⟨o, nm, qn, ho, r⟩, hT, hWa, hW, hb, gs, h2, h3⟩ := h
  refine ⟨⟨o, nm, qn, F.keep a o hT (.inr hWa) ho, r⟩, hT, fun q => q.elim hWa fun z => lt_ge (Heap.lt_size ho) z.1 (Nat.le_refl _), fun b q => .inl (hW b q), fun b q => q.elim (fun q => Nat.lt_of_lt_of_le (hb b q) F.size) fun q => q.2, gs, hg.trans h2, fun s'' F' => ?_⟩
  rw [Since.trans F.size F'.size]
  exact h3 s'' (F.trans F')
theorem GSt.at_ (h : GSt l.M l.h A a g xs W Og s) (F : Futr l.h W Og s s') (hg : s'.gens[g]? = s.gens[g]?) (hs : s'.heap.objs.size = s.heap.objs.size) : GSt l.M l.h A a g xs W Og s' := by
  have := h.stay F hg
  rwa [Since.none hs] at this
theorem bare_set {gens : Array GenState} {x : GenState} (h : AllBare gens) (hx : x.bare = true) : AllBare (gens.setIfInBounds g x) := fun y hy =>
  (Array.mem_or_eq_of_mem_setIfInBounds hy).elim (h y) fun q => q ▸ hx
theorem Kp.gen {s₁ : Shared} {st : GenState} (k : Kp W (fun _ => False) (s.setGen g .running) s₁) (hb : st.bare = true) : Kp W (fun x => x = g) s (s₁.setGen g st) := by
  have gsz : s.gens.size ≤ s₁.gens.size := Nat.le_trans (Nat.le_of_eq Array.size_setIfInBounds.symm) k.gsize
  exact ⟨k.heap, k.size, k.tab, Nat.le_trans gsz (Nat.le_of_eq Array.size_setIfInBounds.symm), fun x y hx e => (Array.getElem?_setIfInBounds_ne (Ne.symm hx)).trans (k.gens x y (fun h => h) ((Array.getElem?_setIfInBounds_ne (Ne.symm hx)).trans e)), fun h => bare_set (k.bare (bare_set h rfl)) hb, k.os, k.tk, k.codes⟩
/-- what a generator's next hands back -/
noncomputable def GNext (l : L) (A : Around) (a : Addr) (g : Nat) (xs : List AV) (W Og : Addr → Prop) (s : Shared) (r : Option Value) (s' : Shared) : Prop := Kp W (fun x => x = g) s s' ∧ match xs with
  | [] => r = none
  | x :: xs => ∃ v, ∃ W' Og' : Addr → Prop, r = some v ∧ Grow W Og s W' Og' ∧ Rd s'.heap Og' x v ∧ GSt l.M l.h A a g xs W' Og' s'
/-- after a stretch -/
theorem gen_last {gs : GenState} (h : GSt l.M l.h A a g xs W Og s) (hgl : g < s.gens.size) {e : End} {s₁ : Shared} (hq : e.quiet = true) (he : GoP l.M l.h A xs W Og (s.setGen g .running) e s₁) {B : Around} {k : GenResult → Sem PySem.Fin} {Q : PySem.Fin → Shared → Prop} {E : Value → Shared → Prop}
    (hy : ∀ v s', GNext l A a g xs W Og s (some v) s' → wpAny l.M B (k (.yielded v)) Q E s') (hd : xs = [] → ∀ s', Kp W (fun x => x = g) s s' → wpAny l.M B (k (.returned .none)) Q E s') : wpAny l.M B (k e.result) Q E (s₁.setGen g e.genState) := by
  cases xs with
  | nil =>
    obtain ⟨rfl, hk⟩ := he
    exact hd rfl _ (hk.gen rfl)
  | cons x xs =>
    obtain ⟨v, ls, kk, c', p', fs', W', Og', rfl, hk, w, w5, w6, hr, hn⟩ := he
    obtain ⟨o, nm, qn, ho, r⟩ := h.gen
    have nW : ¬ W a := fun q => h.na (h.wo a q)
    have hgl1 : g < s₁.gens.size := Nat.lt_of_lt_of_le hgl (Nat.le_trans (Nat.le_of_eq Array.size_setIfInBounds.symm) hk.gsize)
    exact hy v _ ⟨hk.gen (End.bare_of_quiet hq), v, W', Og', rfl, ⟨w.w1, w.w2, w.o1, w.o2⟩, hr, ⟨o, nm, qn, hk.heap a o h.ta nW ho, r⟩, h.ta, fun q => (w.o2 a q).elim h.na fun z => (w.w1 a z).elim nW fun y => lt_ge (Heap.lt_size ho) y (Nat.le_refl _), w5, w6,
      (End.susp v false ls kk c' p' fs').genState, Array.getElem?_setIfInBounds_self_of_lt hgl1, fun s'' F => ⟨c', kk (.send .none), fs', .inr ⟨kk, ls, p', (false || fs'.any Frame.guarded), rfl, rfl⟩, hn s'' ⟨F.keep, F.size, F.base, F.tk⟩⟩⟩
theorem gen_next (hh : A.handled = none) (hroom : A.depth < recursionLimit) (hlim : l.h.NoLimit) (hB : Base l.h s.heap) (htk : 0 < s.toks) (h : GSt l.M l.h A.in1 a g xs W Og s) : wpAny l.M A (pyNext (.ref a)) (GNext l A.in1 a g xs W Og s) NoE s := by
  obtain ⟨gs, hgs, hgo⟩ := h.run
  obtain ⟨c, t, fs, hcase, hseg⟩ := hgo (s.setGen g .running) ⟨fun _ _ _ _ e => e, Nat.le_refl _, hB, htk⟩
  rw [Since.none (s := s) (s' := s.setGen g .running) rfl] at hseg
  unfold pyNext
  refine wpAny_bind (wpAny_attempt (wpAny_callSpecial?_slot (name := Str.ofString "__next__") h.gen.typeIs slot_gen_next
    (wpAny_call_entry slot_gen_next h.gen.typeIs entry_gen_next ?_ (args_gen_next _))))
  show wpAny _ _ (Builtin.Generator.genWake (.ref a) (.send .none)) _ _ s
  unfold Builtin.Generator.genWake
  refine wpAny_bind (wpAny_holding (wpAny_genNumber h.gen (wpAny_bind (wpAny_genState hgs ?_))))
  have tail : ∀ (k : GenResult → Sem PySem.Fin) (Q : PySem.Fin → Shared → Prop) (E : Value → Shared → Prop), (∀ v s', GNext l A.in1 a g xs W Og s (some v) s' → wpAny l.M A.in1 (k (.yielded v)) Q E s') → (xs = [] → ∀ s', Kp W (fun x => x = g) s s' → wpAny l.M A.in1 (k (.returned .none)) Q E s') →
      wpAny l.M A.in1 (.resume g (.send .none) [] k) Q E s := fun k Q E hy hd Γ p hΓ =>
    wake_any PySem.Fin l.prog l.w hgs hcase (fun Γ => Γ.In A.in1) (fun _ h => h) (SegX.monoQ hseg fun e s₁ hq he Γ p hΓ => gen_last (gs := gs) h (Array.getElem?_eq_some_iff.mp hgs).1 hq he hy hd Γ p hΓ) Γ p hΓ
  have go : ∀ (k : GenResult → Sem PySem.Fin) (Q : PySem.Fin → Shared → Prop) (E : Value → Shared → Prop), (∀ v s', GNext l A.in1 a g xs W Og s (some v) s' → wpAny l.M A.in1 (k (.yielded v)) Q E s') → (xs = [] → ∀ s', Kp W (fun x => x = g) s s' → wpAny l.M A.in1 (k (.returned .none)) Q E s') →
      wpAny l.M A.in1 (roomToWake >>= fun _ => .resume g (.send .none) [] k) Q E s := fun k Q E hy hd => wpAny_bind (wpAny_roomToWake (lim_of hlim hB) hroom (tail k Q E hy hd))
  cases gs with
  | running => exact hcase.elim (fun q => nomatch q.1) fun ⟨_, _, _, _, q, _⟩ => nomatch q
  | finished => exact hcase.elim (fun q => nomatch q.1) fun ⟨_, _, _, _, q, _⟩ => nomatch q
  | _ =>
    refine go _ _ _ (fun v s' hv => wpAny_pure ⟨v, rfl, wpAny_pure hv⟩) fun hx s' hk => ?_
    show wpAny _ _ (newExc (.type "StopIteration") [] >>= _) _ _ _
    refine wpAny_bind ?_
    simp only [newExc, newTuple]
    refine wpAny_bind (wpAny_newObj_type ?_ (by size_fits))
    refine wpAny_bind (m := firstArgMember _ _) (wpAny_of_eq (a := Value.none) (by first | rfl | (simp only [firstArgMember]; rfl)) ?_)
    refine wpAny_newObj_type ?_ (by size_fits)
    simp only [raiseNew]
    refine wpAny_bind (wpAny_bind (wpAny_handled ?_))
    rw [show A.in1.handled = none from hh]
    refine wpAny_throw ?_
    refine wpAny_bind (wpAny_isInstance (T := "StopIteration") (b := true) ⟨_, Heap.get?_push_size _ rfl, rfl⟩ isSubtype_stop ?_)
    subst hx
    exact wpAny_pure ⟨(hk.trans (K0.push1 (s := s')).toW).trans (K0.push1 (s := { s' with heap := s'.heap.push _ })).toW, rfl⟩
end
end
section
open PySem.W.X
/-- a list that a generator's values are gathered in -/
structure Ext (l : L) (A : Around) (a : Addr) (g : Nat) (S : Addr) (xs : List AV) (W Og : Addr → Prop) (s : Shared) (acc : Array Value) : Prop where
  g : GSt l.M l.h A a g xs W Og s
  at_ : ∃ c, s.heap.get? S = some { cls := .type "list", data := .seq acc c }
  ta : S ≠ TA
  oS : Og S
  wS : ¬ W S
  lS : l.h.objs.size ≤ S
  wl : ∀ b, W b → l.h.objs.size ≤ b
  base : Base l.h s.heap
  tk : 0 < s.toks
section
variable {l : L} {A : Around} {s s' : Shared} {a S : Addr} {g : Nat} {xs : List AV} {W Og : Addr → Prop} {acc : Array Value} {R : Result → Shared → Prop} {res : Value}
/-- the list is written -/
theorem Ext.upd (e : Ext l A a g S xs W Og s acc) (F : Array Value → Array Value) : Kp (fun b => b = S) (fun _ => False) s { s with heap := s.heap.update S (Obj.mapSeq F) } ∧ Ext l A a g S xs W Og { s with heap := s.heap.update S (Obj.mapSeq F) } (F acc) := by
  obtain ⟨c, hS⟩ := e.at_
  have hs : Heap.SameBut S s.heap (s.heap.update S (Obj.mapSeq F)) := Heap.SameBut.update ..
  have k := Kp.one hs e.ta (.seq hS rfl)
  have hB := e.base.kp k fun b h => .inl (h ▸ e.lS)
  exact ⟨k, e.g.at_ ⟨fun b o _ hb z => hs.extBut b o (fun q => (q ▸ hb).elim e.wS fun z => z e.oS) z, k.size, hB, e.tk⟩ rfl hs.1, upd_plain F hS, e.ta, e.oS, e.wS, e.lS, e.wl, hB, e.tk⟩
theorem ext_loop (hh : A.handled = none) (hroom : A.depth < recursionLimit) (hlim : l.h.NoLimit) : ∀ (xs ys : List AV) {W Og : Addr → Prop} {s : Shared} {acc : Array Value}, Ext l A.in1.in1 a g S xs W Og s acc → RdL s.heap Og ys acc.toList → acc.size + xs.length ≤ sizeLine →
      (∀ s' acc' c' Og', Kp (fun b => W b ∨ b = S) (fun x => x = g) s s' → s'.heap.get? S = some { cls := .type "list", data := .seq acc' c' } → (∀ b, Og b → Og' b) → RdL s'.heap Og' (ys ++ xs) acc'.toList → R (.ok (.ret res)) s') →
      codeAny l.M A (.builtin "list.extend.loop" ⟨[.ref S, .ref a, res], []⟩) R s := by
  intro xs
  induction xs with
  | nil =>
    intro ys W Og s acc e hr hz hR
    refine codeAny_builtin PySem.F.entry_extend_loop ?_
    rw [Around.under_plainId PySem.F.plain_extend_loop _]
    show wpAny _ A.in1 (pyNext (.ref a) >>= _) _ _ s
    refine wpAny_bind (wpAny_mono (gen_next hh hroom hlim e.base e.tk e.g) (fun r s' q => ?_) fun _ _ z => z.elim)
    obtain ⟨k, rfl⟩ := q
    obtain ⟨c, hS⟩ := e.at_
    refine wpAny_pure (hR s' acc c Og (k.mono (fun b h => .inl (.inl h)) fun _ h => .inl h) (k.heap S _ e.ta e.wS hS) (fun _ h => h) ?_)
    rw [List.append_nil]
    exact hr.kp k fun b h => .inl (e.g.wo b h)
  | cons x xs ih =>
    intro ys W Og s acc e hr hz hR
    refine codeAny_builtin PySem.F.entry_extend_loop ?_
    rw [Around.under_plainId PySem.F.plain_extend_loop _]
    show wpAny _ A.in1 (pyNext (.ref a) >>= _) _ _ s
    refine wpAny_bind (wpAny_mono (gen_next hh hroom hlim e.base e.tk e.g) (fun r s' q => ?_) fun _ _ z => z.elim)
    obtain ⟨k, v, W', Og', rfl, w, hv, hG'⟩ := q
    obtain ⟨c, hS⟩ := e.at_
    have hSlt : S < s.heap.objs.size := Heap.lt_size hS
    have e' : Ext l A.in1.in1 a g S xs W' Og' s' acc := ⟨hG', ⟨c, k.heap S _ e.ta e.wS hS⟩, e.ta, w.o1 S e.oS, fun q => (w.w1 S q).elim e.wS fun z => lt_ge hSlt z (Nat.le_refl _), e.lS, fun b h => (w.w1 b h).elim (e.wl b) fun z => Nat.le_trans e.base.size z, e.base.kp k fun b h => .inl (e.wl b h), k.tk e.tk⟩
    have hr' : RdL s'.heap Og' ys acc.toList := hr.move fun b o e1 e2 e3 => ⟨k.heap b o e1 (fun q => e2 (e.g.wo b q)) e3, fun q => (w.o2 b q).elim e2 fun z => (w.w1 b z).elim (fun y => e2 (e.g.wo b y)) fun y => lt_ge (Heap.lt_size e3) y (Nat.le_refl _)⟩
    obtain ⟨c', hS'⟩ := e'.at_
    obtain ⟨k2, e2⟩ := e'.upd (·.push v)
    have hz1 : acc.size + 1 + xs.length ≤ sizeLine := Nat.le_trans (Nat.le_of_eq (by rw [Nat.add_right_comm]; rfl)) hz
    have hz2 : acc.size + 1 ≤ sizeLine := Nat.le_trans (Nat.le_add_right _ _) hz1
    show wpAny _ A.in1 (updateSeq S (·.push v) >>= _) _ _ _
    refine wpAny_bind (wpAny_updateSeq hS' rfl (wpAny_pure ⟨plainId_quiet PySem.F.plain_extend_loop _, ih (ys ++ [x]) e2 ?_ (by rw [Array.size_push]; exact hz1) fun s'' acc' c'' Og'' kk hS'' hO'' hr'' => ?_⟩) (Nat.le_of_succ_le hz2) (by show (acc.push v).size ≤ sizeLine + 1; rw [Array.size_push]; exact Nat.le_succ_of_le hz2))
    · rw [Array.toList_push]
      exact (RdL.append hr' (.single hv)).kp k2 fun b h => .inl (h ▸ e'.oS)
    · refine hR s'' acc' c'' Og'' ?_ hS'' (fun b h => hO'' b (w.o1 b h)) (by rw [List.append_assoc] at hr''; exact hr'')
      exact Kp.mono (W := fun b => (W b ∨ b = S) ∨ s.heap.objs.size ≤ b) (G := fun x => x = g) ((k.mono (fun b h => .inl (.inl (.inl h))) fun _ h => .inl h).trans ((k2.mono (fun b h => .inl (.inl (.inr h))) fun _ h => h.elim).trans (kk.mono (fun b h => h.elim (fun q => .inl ((w.w1 b q).elim (fun z => .inl (.inl z)) .inr)) fun q => .inl (.inl (.inr q))) fun _ h => .inl h)))
        (fun b h => h.elim .inl fun q => .inr (get_none q)) fun _ h => .inl h
/-- what the gathering leaves -/
noncomputable def Got (g : Nat) (S : Addr) (xs : List AV) (W Og : Addr → Prop) (s s' : Shared) : Prop := Kp (fun b => W b ∨ b = S) (fun x => x = g) s s' ∧ ∃ acc' c' Og', s'.heap.get? S = some { cls := .type "list", data := .seq acc' c' } ∧ (∀ b, Og b → Og' b) ∧ RdL s'.heap Og' xs acc'.toList
theorem Got.pre (k : Kp (fun b => b = S) (fun _ => False) s s') {s''} (h : Got g S xs W Og s' s'') : Got g S xs W Og s s'' := ⟨(k.mono (fun b h => .inl (.inr h)) fun _ h => h.elim).trans h.1, h.2⟩
noncomputable abbrev FinR (M : Model) (A : Around) (R : Result → Shared → Prop) (fin : PySem.Fin) (s' : Shared) : Prop := match fin with | .done f => R (.ok f) s' | .again c' => c'.quiet = true ∧ codeAny M A c' R s'
theorem extend_gen (hh : A.handled = none) (hroom : A.depth < recursionLimit) (hlim : l.h.NoLimit) (e : Ext l A.in1.in1 a g S xs W Og s #[]) (hz : xs.length ≤ sizeLine) (hR : ∀ s', Got g S xs W Og s s' → R (.ok (.ret res)) s') :
    wpAny l.M A.in1 (Builtin.List.listExtendWith (.ref S) (.ref a) res) (FinR l.M A R) (fun e s' => R (.error e) s') s := by
  have hgen := e.g.gen
  obtain ⟨c, hS⟩ := e.at_
  unfold Builtin.List.listExtendWith
  refine wpAny_bind (wpAny_typeOf hgen.typeIs ?_)
  have h1 : Builtin.List.listSameRef (.ref S) (.ref a) = false := beq_eq_false_iff_ne.mpr fun q => e.g.na (q ▸ e.oS)
  rw [h1, if_neg (by decide)]
  refine wpAny_bind (wpAny_pyIter_gen hgen ?_)
  refine wpAny_bind (wpAny_holding ?_)
  unfold Builtin.List.listLengthHint
  refine wpAny_bind (wpAny_specialOf hgen.typeIs PySem.F.gen_no_len ?_)
  show wpAny _ A.in1 (specialOf (Value.ref a) (Str.ofString "__length_hint__") >>= _) _ _ _
  refine wpAny_bind (wpAny_specialOf hgen.typeIs PySem.F.gen_no_hint ?_)
  refine wpAny_pure ?_
  show wpAny _ A.in1 (rule "list.extend.makes-room" >>= fun _ => Builtin.List.listTouch (.ref S) >>= fun _ =>
    again (.builtin "list.extend.loop" ⟨[.ref S, .ref a, res], []⟩)) _ _ _
  refine wpAny_bind (wpAny_rule ?_)
  refine wpAny_bind ?_
  show wpAny _ A.in1 (updateSeq S (·.push .none) >>= fun _ => updateSeq S (·.pop)) _ _ _
  refine wpAny_bind (wpAny_updateSeq hS rfl ?_)
  obtain ⟨k1, e1⟩ := e.upd (·.push Value.none)
  obtain ⟨c2, hS2⟩ := e1.at_
  refine wpAny_updateSeq (hz := by seq_fits) hS2 rfl ?_
  obtain ⟨k2, e2⟩ := e1.upd (·.pop)
  exact wpAny_pure ⟨plainId_quiet PySem.F.plain_extend_loop _, ext_loop hh hroom hlim xs [] e2 .nil (Nat.le_trans (Nat.le_of_eq (Nat.zero_add _)) hz) fun s' acc' c' Og' k hS' hO' hr' => hR s' (.pre k1 (.pre k2 ⟨k, acc', c', Og', hS', hO', hr'⟩))⟩
theorem init_gen (hh : A.handled = none) (hroom : A.depth < recursionLimit) (hlim : l.h.NoLimit) (e : Ext l A.in1.in1 a g S xs W Og s #[]) (hz : xs.length ≤ sizeLine) (hR : ∀ s', Got g S xs W Og s s' → R (.ok (.ret .none)) s') :
    wpAny l.M A.in1 (Builtin.«list.__init__» ⟨[.ref S, .ref a], []⟩) (FinR l.M A R) (fun e s' => R (.error e) s') s := by
  obtain ⟨c, hS⟩ := e.at_
  show wpAny _ A.in1 (do let old ← Builtin.List.listItems (.ref S); Builtin.List.listUpdate (.ref S) (fun _ => #[]); letGo old.toList.reverse; Builtin.List.listExtendWith (.ref S) (.ref a) .none) _ _ s
  refine wpAny_bind ?_
  unfold Builtin.List.listItems
  refine wpAny_bind (wpAny_seqItems hS rfl (wpAny_pure ?_))
  show wpAny _ A.in1 (updateSeq S (fun _ => #[]) >>= fun _ => letGo (#[] : Array Value).toList.reverse >>= fun _ => Builtin.List.listExtendWith (.ref S) (.ref a) .none) _ _ s
  refine wpAny_bind (wpAny_updateSeq hS rfl ?_)
  obtain ⟨k1, e1⟩ := e.upd fun _ => #[]
  exact wpAny_bind (wpAny_letGo (extend_gen hh hroom hlim e1 hz fun s' q => hR s' (.pre k1 q)))
theorem list_gen (hh : A.handled = none) (hroom : A.depth < recursionLimit) (hlim : l.h.NoLimit) (hG : GSt l.M l.h A.in1.in1.in1 a g xs W Og s) (hWl : ∀ b, W b → l.h.objs.size ≤ b) (hz : xs.length ≤ sizeLine) (hB : Base l.h s.heap) (htk : 0 < s.toks) :
    wpAny l.M A (call (.type "list") [.ref a]) (fun v s' => Kp W (fun x => x = g) s s' ∧ Rd s'.heap Og (.list xs) v) NoE s := by
  have hTA := TA_lt hB.tab
  refine callType_codes (Q₁ := fun obj s₁ => obj = .ref s.heap.objs.size ∧ s₁ = { s with heap := s.heap.push { cls := .type "list", data := .seq #[] } }) PySem.F.called_list (PySem.F.typeCall_list_1 _) PySem.F.entry_list_init
    (code_list_new _ ⟨rfl, rfl⟩) fun obj s₁ h₁' => ?_
  obtain ⟨rfl, rfl⟩ := h₁'
  have hS : (s.heap.push { cls := .type "list", data := .seq #[] }).get? s.heap.objs.size = some { cls := .type "list", data := .seq #[] } := Heap.get?_push_size _ rfl
  have k1 : K0 s { s with heap := s.heap.push { cls := .type "list", data := .seq #[] } } := .push1
  have hlt : s.heap.objs.size < (s.heap.push { cls := .type "list", data := .seq #[] }).objs.size := by rw [Heap.size_push]; exact Nat.lt_succ_self _
  have hG1 := hG.stay (s' := { s with heap := s.heap.push { cls := .type "list", data := .seq #[] } }) ⟨fun b o ht _ e => k1.heap b o ht (fun h => h) e, k1.size, hB.k0 k1, htk⟩ rfl
  refine ⟨⟨_, hS, rfl⟩, PySem.F.args_list_init_2 _ _, init_gen (A := A.in1) hh hroom hlim ⟨hG1, ⟨_, hS⟩, Nat.ne_of_gt hTA, .inr ⟨Nat.le_refl _, hlt⟩, fun q => Nat.lt_irrefl _ (hG.bd _ (hG.wo _ q)), hB.size, hWl, hB.k0 k1, htk⟩ hz fun s' q => ?_⟩
  obtain ⟨k, acc', c', Og', hS', hO', hr'⟩ := q
  exact ⟨rfl, Kp.mono (W := fun b => W b ∨ b = s.heap.objs.size) (G := fun x => x = g) (k1.toW.trans k) (fun b h => h.elim .inl fun q => .inr (get_none (Nat.le_of_eq q.symm))) fun _ h => .inl h,
    rd_list.mpr ⟨_, acc', c', rfl, fun q => Nat.lt_irrefl _ (hG.bd _ q), Nat.ne_of_gt hTA, hS', Nat.le_trans (Nat.le_of_eq (Array.length_toList.symm.trans hr'.length)) hz, hr'.up fun b q => hO' b (.inl q)⟩⟩
end
end
section
open PySem.W.X
/-- a generator made by a call -/
inductive GM (l : L) (O : Addr → Prop) (ys : List AV) (s : Shared) : Value → Shared → Prop
  | mk {s' : Shared} (a g) (W Og : Addr → Prop) (k : K0 s s') (ha : s.heap.objs.size ≤ a) (hg : s.gens.size ≤ g) (hW : ∀ b, W b → s.heap.objs.size ≤ b) (hO : ∀ b, O b → Og b) (hOg : ∀ b, Og b → O b ∨ s.heap.objs.size ≤ b)
    (run : ∀ Ac : Around, Ac.handled = none → Ac.depth + l.d < recursionLimit → Ac.units + (90 + 20 * l.d) < cLine → GSt l.M l.h Ac a g ys W Og s') : GM l O ys s (.ref a) s'
/-- a global generator function's values -/
noncomputable def GF (l : L) (g : Str) (as ys : List AV) : Prop := ∃ fv, GlobIs l.h g fv ∧ Callee l.h fv ∧ ∀ A s O vs, Go l A O s → RdL s.heap O as vs → wpAny l.M A (call fv vs) (GM l O ys s) NoE s
section
variable {l : L} {A : Around} {s s₀ s' : Shared} {O : Addr → Prop} {ys : List AV} {v : Value}
theorem GM.up (h : GM l O ys s v s') : GM l.up O ys s v s' := by
  cases h with
  | mk a g W Og e2 e3 e4 e5 e6 e7 e8 => exact .mk a g W Og e2 e3 e4 e5 e6 e7 fun Ac q1 q2 q3 => e8 Ac q1 (Nat.lt_of_succ_lt q2) (Nat.lt_of_le_of_lt (Nat.add_le_add_left (Nat.add_le_add_left (Nat.mul_le_mul_left 20 (Nat.le_succ _)) 90) _) q3)
theorem Go.of_up (g : Go l.up A O s) : Go l A O s := ⟨g.hh, Nat.lt_of_succ_lt g.dep, Nat.lt_of_le_of_lt (Nat.add_le_add_left (Nat.add_le_add_left (Nat.mul_le_mul_left 20 (Nat.le_succ _)) 100) _) g.uni, g.tk, g.base, g.bd⟩
theorem GF.up {g as} (h : GF l g as ys) : GF l.up g as ys := let ⟨fv, a, b, c⟩ := h; ⟨fv, a, b, fun A s O vs g r => wpAny_mono (c A s O vs g.of_up r) (fun _ _ => GM.up) fun _ _ z => z⟩
theorem GM.pre (k : K0 s₀ s) (h : GM l O ys s v s') : GM l O ys s₀ v s' := by
  cases h with
  | mk a g W Og e2 e3 e4 e5 e6 e7 e8 => exact .mk a g W Og (k.trans e2) (Nat.le_trans k.size e3) (Nat.le_trans k.gsize e4) (fun b h => Nat.le_trans k.size (e5 b h)) e6 (fun b h => (e7 b h).imp id (Nat.le_trans k.size)) e8
theorem sx_func {body : List Stmt} {env : Env} {PP : End → Shared → Prop}
    (h : SegX l.M A (.func body env) ((execs body env).wrap (fun f => .pure (.done (.ret (match f with | .ret v => v | _ => .none))))
      (fun e => (leaving env e).wrap (fun _ => .raise e) .raise id id) id id) [] s PP) :
    SegX l.M A (.func body env) (denote table (.func body env)) [] s PP := by
  show SegX _ A _ (.point [] fun _ => ((execs body env).onRaise (leaving env)) >>= _) [] s PP
  refine sx_wrap (m := point) (H := .raise) (gd := id) (lv := fun _ => []) (wpAny_point ?_)
  rw [Sem.onRaise_eq_wrap, Sem.bind_eq_wrap', Sem.wrap_wrap]
  rw [Sem.wrap_congr (execs body env) _ _ (K' := fun f => .pure (.done (.ret (match f with | .ret v => v | _ => .none))))
    (H' := fun e => (leaving env e).wrap (fun _ => .raise e) .raise id id) (fun f => by cases f <;> rfl)
    (fun e => by rw [Sem.bind_eq_wrap, Sem.wrap_wrap]; rfl)]
  exact h
/-- a generator's first stretch -/
theorem gen_start {Ac : Around} {body : List Stmt} {env : Env} {cx : Cx} {ρ ρ' : Ro} {W Og Mu : Addr → Prop} {s'' : Shared} (q1 : Ac.handled = none) (q2 : Ac.depth + l.up.d < recursionLimit) (q3 : Ac.units + (90 + 20 * l.up.d) < cLine) (hrun : Gn l cx ρ (execs body) ρ' ys)
    (act : (Ac.over (.func body env) []).handled = none → (Ac.over (.func body env) []).depth + l.d < recursionLimit → (Ac.over (.func body env) []).units + (100 + 20 * l.d) < cLine → Act l cx ⟨Ac.over (.func body env) [], env, Og, Mu⟩ ρ s'')
    (hw : ∀ b, W b → Og b) (hm : ∀ b, Mu b → W b) (hc : ∀ n c, env.cells.lookup n = some c → W c) : SegX l.M Ac (.func body env) (denote table (.func body env)) [] s'' (GoP l.M l.h Ac ys W Og s'') := by
  have pl : Pl l ⟨Ac, .func body env, [], fun f => .pure (.done (.ret (match f with | .ret v => v | _ => .none))), fun e => (leaving env e).wrap (fun _ => .raise e) .raise id id, id, id⟩ := ⟨rfl, rfl, rfl, q1,
    Nat.lt_of_le_of_lt (Nat.le_of_eq (by show Ac.depth + 0 + 1 + l.d = Ac.depth + (l.d + 1); rw [Nat.add_zero, Nat.add_assoc, Nat.add_comm 1])) q2, Nat.lt_of_le_of_lt (by show Ac.units + 0 + 3 + (100 + 20 * l.d) ≤ Ac.units + (90 + 20 * (l.d + 1)); rw [Nat.add_zero, Nat.add_assoc, ← Nat.add_assoc 3, Nat.mul_succ, ← Nat.add_assoc 90, Nat.add_right_comm 90]; exact Nat.add_le_add_left (Nat.add_le_add_right (by decide) _) _) q3⟩
  have := hrun.ok _ env ⟨W, Og, s'', Og, Mu, s''⟩ [] pl ⟨act pl.h1 pl.h2 pl.h3, ⟨.refl, fun b h => h, fun b h => .inl h, hw, fun b h => .inl (hm b h)⟩, fun n c h => .inl (hc n c h)⟩ fun g' a' v => ?_
  · rw [List.append_nil] at this
    exact sx_func this
  · exact s_end l.prog l.w Ac _ _ g'.s (.ok (.ret .none)) _ (by rfl) ⟨rfl, a'.inv.k⟩
theorem gen_make {fa : Addr} {fd : FuncData} {body : List Stmt} {names : List Str} {as : List AV} {ρ' : Ro} {vs : List Value} (F : FnIs l.h fa fd body names true) (hlim : l.h.NoLimit) (hlen : names.length = as.length)
    (hrun : Gn l (fnCx fd) (names.zip (as.map .fz)) (execs body) ρ' ys) (g : Go l.up A O s) (hvs : RdL s.heap O as vs) : wpAny l.up.M A (call (.ref fa) vs) (GM l.up O ys s) NoE s := by
  obtain ⟨o, hg, hd⟩ := F.obj
  obtain ⟨c, oc, fs, t, hc1, hc2, hc3, hc4, hc5⟩ := F.code
  have hT := TA_lt g.base.tab
  have hsc := F.scope
  unfold okScope at hsc
  refine wpAny_call (codeAny_call_generator g.dp (g.base.keep _ _ F.ta hg) hd F.co F.gen F.body ⟨c, oc, fs, t, hc1, g.base.keep _ _ hc2 hc3, hc4, hc5⟩ ?_)
  rw [F.bind vs (by rw [hvs.length, hlen]), F.clo]
  refine wpAny_pure (with_tk (wpAny_newFunctionEnv_cells (eq_of_beq (Bool.and_eq_true_iff.mp hsc).1) F.kinds fun env he s₁ x htk => ?_))
  subst he
  have x' : InCallC s (callEnvC fd s.heap.objs.size fa).locals (bindL (callEnvC fd s.heap.objs.size fa).kindOf (names.zip vs) fun _ => none) (callEnvC fd s.heap.objs.size fa).cells (bindC (callEnvC fd s.heap.objs.size fa).kindOf (names.zip vs) fun _ => none) s₁ := x
  obtain ⟨⟨hh', tk, rfl⟩, hns, hkeep, _⟩ := x'.toInCall
  have hLlt : s.heap.objs.size < hh'.objs.size := hns.lt
  refine ⟨(lim_of hlim g.base).keeps hkeep, ?_⟩
  generalize hobj : ({ cls := .type "generator", data := .fields #[.int s.gens.size 0, .str fd.name tk, .str fd.qualname (tk + 1)] } : Obj) = go
  have hsz2 : (hh'.push go).objs.size = hh'.objs.size + 1 := Heap.size_push ..
  have k1 : K0 s { s with gens := s.gens.push (.fresh (.func body (callEnvC fd s.heap.objs.size fa))), toks := tk + 1 + 1, heap := hh'.push go } :=
    ⟨fun b o _ _ e => Heap.get?_push_of_some _ (hkeep b o e), by show _ ≤ (hh'.push go).objs.size; rw [hsz2]; exact Nat.le_succ_of_le (Nat.le_of_lt hLlt), fun ⟨u, e⟩ => ⟨u, Heap.get?_push_of_some _ (hkeep _ _ e)⟩, by show _ ≤ (s.gens.push _).size; rw [Array.size_push]; exact Nat.le_succ _,
      fun i y _ e => by
        obtain ⟨e1, e2⟩ := Array.getElem?_eq_some_iff.mp e
        exact (Array.getElem?_push_lt e1).trans (congrArg some e2), fun h => AllBare.push h rfl, rfl, fun _ => Nat.succ_pos _, CodesOk.all fun _ _ e => Heap.get?_push_of_some _ (hkeep _ _ e)⟩
  refine ⟨hh'.objs.size, s.gens.size, fun b => s.heap.objs.size ≤ b ∧ b < hh'.objs.size, fun b => O b ∨ (s.heap.objs.size ≤ b ∧ b < hh'.objs.size), k1, Nat.le_of_lt hLlt, Nat.le_refl _, fun b h => h.1, fun b h => .inl h, fun b h => h.elim .inl fun q => .inr q.1, fun Ac q1 q2 q3 => ?_⟩
  have hOl : ∀ b, (O b ∨ (s.heap.objs.size ≤ b ∧ b < hh'.objs.size)) → b < hh'.objs.size := fun b h => h.elim (fun z => Nat.lt_trans (g.bd b z) hLlt) fun z => z.2
  refine ⟨⟨go, _, _, Heap.get?_push_size _ (by rw [← hobj]; rfl), by rw [← hobj], by rw [← hobj], by rw [← hobj]⟩, Nat.ne_of_gt (Nat.lt_trans hT hLlt), fun q => Nat.lt_irrefl _ (hOl _ q), fun b h => .inr h, fun b h => hsz2 ▸ Nat.lt_succ_of_lt (hOl b h), .fresh (.func body (callEnvC fd s.heap.objs.size fa)), Array.getElem?_push_size, fun s'' Fu => ?_⟩
  have fsz : hh'.objs.size < s''.heap.objs.size := Nat.lt_of_lt_of_le (Nat.lt_succ_self _) (Nat.le_trans (Nat.le_of_eq hsz2.symm) Fu.size)
  refine ⟨_, _, _, .inl ⟨rfl, rfl, rfl, rfl⟩, gen_start (l := l) q1 q2 q3 hrun (fun h1 h2 h3 => frame_act (l := l) (O'' := Since (fun b => O b ∨ (s.heap.objs.size ≤ b ∧ b < hh'.objs.size)) { s with gens := s.gens.push (.fresh (.func body (callEnvC fd s.heap.objs.size fa))), toks := tk + 1 + 1, heap := hh'.push go } s'') F hlen g.base hvs x'
      (fun b o b1 b2 e => Fu.keep b o (Nat.ne_of_gt (Nat.lt_of_lt_of_le hT b1)) (.inl ⟨b1, b2⟩) (Heap.get?_push_of_some _ e))
      (fun b o ht hOb e => Fu.keep b o ht (.inr fun z => z.elim hOb fun y => lt_ge (Heap.lt_size e) y.1 (Nat.le_refl _)) (Heap.get?_push_of_some _ (hkeep b o e)))
      Fu.base Fu.tk (fun b h => .inl (.inr h)) (fun b h => h.elim (fun z => Nat.lt_trans (hOl b z) fsz) fun z => z.2) (fun b h => h.elim (fun z => z.imp id fun z => z.1) fun z => .inr (Nat.le_trans (Nat.le_of_lt hLlt) (Nat.le_trans (Nat.le_trans (Nat.le_succ _) (Nat.le_of_eq hsz2.symm)) z.1))) h1 h2 h3)
    (fun b h => .inl (.inr h)) (fun b h => h) fun n c hc => ?_⟩
  obtain ⟨o, ho, _⟩ := x'.cell n c hc
  exact ⟨Nat.le_of_lt (x'.above n c (mem_of_lookup hc)), Heap.lt_size ho⟩
end
end
section
open PySem.W.X
section
variable {l : L} {cx : Cx} {f : Fm} {ρ ρ' ρ0 ρ1 : Ro} {s s' : Shared}
theorem go_gen {A : Around} {tgt : Expr} (ht : Tgt tgt) {a : Addr} {g : Nat} {v : Value} {Q : Unit → Shared → Prop} {E : Value → Shared → Prop} (h : s.heap.IsGen a g) (hQ : Q () s) : wpAny l.M A (letOwnedTupleGo tgt (.ref a) v) Q E s := by
  cases ht with
  | name => exact wpAny_pure hQ
  | tup =>
    obtain ⟨o, nm, qn, ho, hc, hd, _⟩ := h
    cases v with
    | ref b =>
      unfold letOwnedTupleGo
      refine wpAny_bind (wpAny_load ho ?_)
      rw [hc, hd]
      show wpAny _ A (if (["enumerate", "zip", "dict_itemiterator", "dict_reverseitemiterator", "odict_iterator", "itertools.zip_longest", "itertools.pairwise"].contains "generator" && _) = true then _ else _) _ _ _
      rw [show ["enumerate", "zip", "dict_itemiterator", "dict_reverseitemiterator", "odict_iterator", "itertools.zip_longest", "itertools.pairwise"].contains "generator" = false by decide, Bool.false_and, if_neg Bool.false_ne_true]
      exact wpAny_pure hQ
    | _ => exact wpAny_pure hQ
/-- a loop over a generator under way: it began in s -/
structure GInv (l : L) (cx : Cx) (f : Fm) (a : Addr) (g : Nat) (s : Shared) (rest : List AV) (ρ' : Ro) (O' Mu' W Og : Addr → Prop) (t : Shared) : Prop where
  act : Act l cx (f.up O' Mu') ρ' t
  gen : GSt l.M l.h f.A.in1 a g rest W Og t
  k : Kp f.Mu (fun x => x = g) s t
  mu : ∀ b, Mu' b → f.Mu b ∨ s.heap.objs.size ≤ b
  o : ∀ b, O' b → f.O b ∨ s.heap.objs.size ≤ b
  st : ∀ b, f.O b → ¬ f.Mu b → O' b
  og : ∀ b, O' b → Og b
  w : ∀ b, W b → O' b ∧ ¬ Mu' b ∧ s.heap.objs.size ≤ b
section
variable {a : Addr} {g : Nat} {rest : List AV} {O' Mu' O2 Mu2 W W' Og Og' : Addr → Prop} {t t' s3 : Shared}
theorem GInv.fin (hg0 : s.gens.size ≤ g) (G : GInv l cx f a g s rest ρ' O' Mu' W Og t) : StepR f.O f.Mu O' Mu' s t := ⟨G.k.mono (fun b h => .inl h) fun x h => .inr (h ▸ hg0), G.mu, G.o, G.st⟩
theorem GInv.off (ac : Act l cx f ρ s) (G : GInv l cx f a g s rest ρ' O' Mu' W Og t) (b : Addr) (h : W b) : Off l (f.up O' Mu') b :=
  ⟨(G.w b h).1, (G.w b h).2.1, fun q => ac.inO (G.w b h).2.2 (q ▸ ac.en.muO _ ac.en.muL), fun n q => ac.inO (G.w b h).2.2 (ac.en.cells n b q).1, Nat.le_trans ac.low (G.w b h).2.2⟩
theorem GInv.k3 (G : GInv l cx f a g s rest ρ' O' Mu' W Og t) (k : Kp W (fun x => x = g) t t') : Kp f.Mu (fun x => x = g) s t' :=
  Kp.mono (W := fun b => f.Mu b ∨ s.heap.objs.size ≤ b) (G := fun x => x = g) ((G.k.mono (fun b h => .inl (.inl h)) fun _ h => .inl h).trans (k.mono (fun b h => .inl (.inr (G.w b h).2.2)) fun _ h => .inl h)) (fun b h => h.elim .inl fun q => .inr (get_none q)) fun _ h => .inl h
end
/-- a loop over a generator -/
theorem forGen_ok {body : List Stmt} {tgt : Expr} {a : Addr} {g : Nat} {r : Ro × Fl} {s₂ : Shared} {W₀ Og₀ : Addr → Prop} {xs : List AV} (htg : Tgt tgt) (hlim : l.h.NoLimit) (k2 : K0 s s₂) (hg0 : s.gens.size ≤ g) (hG : GSt l.M l.h f.A.in1 a g xs W₀ Og₀ s₂)
    (hW0 : ∀ b, W₀ b → s.heap.objs.size ≤ b) (hO0 : ∀ b, f.O b → Og₀ b) (he : ForR l cx body tgt ρ xs r) (ac : Act l cx f ρ s) :
    codeAny l.M f.A (.forLoop tgt (.ref a) body [] f.env) (fun rr s' => match rr with | .ok c => Ran l cx f r s c s' | .error e => cameBackBy l.M f.A f.env NoE e s') s₂ := by
  refine codeAny_forLoop_any (fun n t => ∃ rest ρ', ∃ O' Mu' W Og : Addr → Prop, n = rest.length ∧ ForR l cx body tgt ρ' rest r ∧ GInv l cx f a g s rest ρ' O' Mu' W Og t) (fun n t hI => ?_) xs.length
    ⟨xs, ρ, fun b => f.O b ∨ W₀ b, f.Mu, W₀, Og₀, rfl, he, ac.addO k2 fun b h => ⟨hW0 b h, hG.bd b (hG.wo b h)⟩, hG, k2.toW, fun b h => .inl h, fun b h => h.elim .inl fun q => .inr (hW0 b q), fun b h _ => .inl h, fun b h => h.elim (hO0 b) (hG.wo b), fun b h => ⟨.inr h, fun q => ac.inO (hW0 b h) (ac.en.muO b q), hW0 b h⟩⟩
  obtain ⟨rest, ρ', O', Mu', W, Og, rfl, hf, G⟩ := hI
  have step : ∀ {x rest ρ1 r1} {Q : Flow → Shared → Prop} {E : Value → Shared → Prop} {v s3}, GNext l f.A.in1 a g (x :: rest) W Og t v s3 → AsgT cx ρ' tgt x ρ1 → XS l cx ρ1 body r1 →
      (∀ c O2 Mu2 W2 Og2 s6, GInv l cx f a g s rest r1.1 O2 Mu2 W2 Og2 s6 → FlowOk O2 r1.2 c s6 → Q c s6) →
      ∃ v', v = some v' ∧ wpAny l.M f.A (letOwnedTupleGo tgt (.ref a) v') (fun _ s4 => wpAny l.M f.A (assign tgt f.env v') (fun _ s5 => wpAny l.M f.A (execs body f.env) Q E s5) E s4) E s3 := fun {x rest ρ1 r1 Q E v s3} q3 h1 h2 n => by
    obtain ⟨k3, v', W', Og', rfl, w, hrd, hG3⟩ := q3
    refine ⟨v', rfl, go_gen htg hG3.gen ?_⟩
    have k13 := G.k3 k3
    have s_s3 : s.heap.objs.size ≤ s3.heap.objs.size := k13.size
    have hWlt : ∀ b, W' b → b < s3.heap.objs.size := fun b h => hG3.bd b (hG3.wo b h)
    have a3 := G.act.turn (N := fun b => W' b ∧ t.heap.objs.size ≤ b) k3 (G.off ac) fun b h => ⟨h.2, hWlt b h.1⟩
    have hW3 : ∀ b, W' b → (O' b ∨ (W' b ∧ t.heap.objs.size ≤ b)) ∧ ¬ Mu' b ∧ s.heap.objs.size ≤ b := fun b h => (w.w1 b h).elim (fun q => ⟨.inl (G.w b q).1, (G.w b q).2⟩) fun q => ⟨.inr ⟨h, q⟩, fun z => G.act.inO q (G.act.en.muO b z), Nat.le_trans G.k.size q⟩
    have hO3 : ∀ b, (O' b ∨ (W' b ∧ t.heap.objs.size ≤ b)) → Og' b := fun b h => h.elim (fun q => w.o1 b (G.og b q)) fun q => hG3.wo b q.1
    refine wpAny_mono (asg_ok (f := (f.up (fun b => O' b ∨ (W' b ∧ t.heap.objs.size ≤ b)) Mu')) h1 a3 (hrd.up hO3)) (fun _ s5 q5 => wpAny_mono (h2.ok (f.up (fun b => O' b ∨ (W' b ∧ t.heap.objs.size ≤ b)) Mu') s5 q5.2) (fun c s6 q6 => ?_) fun _ _ z => z.elim) fun _ _ z => z.elim
    obtain ⟨O2, Mu2, st, a6, hfl⟩ := q6
    have st36 := (StepR.of q5.1).trans st a3.en.bound
    have F : Futr l.h W' Og' s3 s6 := ⟨fun b o ht hb e => st36.k.heap b o ht (fun q => hb.elim (fun z => (hW3 b z).2.1 q) fun z => z (hO3 b (a3.en.muO b q))) e, st36.k.size, a6.base, a6.tk⟩
    have gk : s6.gens[g]? = s3.gens[g]? := hG3.run.elim fun gs z => (st36.k.gens g gs (fun h => h) z.1).trans z.1.symm
    refine n c O2 Mu2 W' _ s6 ⟨a6, hG3.stay F gk, ?_, fun b h => (st36.mu b h).elim (G.mu b) fun q => .inr (Nat.le_trans s_s3 q), fun b h => (st36.o b h).elim (fun q => q.elim (G.o b) fun z => .inr (hW3 b z.1).2.2) fun q => .inr (Nat.le_trans s_s3 q), fun b h hm => st36.st b (.inl (G.st b h hm)) fun q => (G.mu b q).elim hm (ac.inO · h),
      fun b h => (st36.o b h).elim (fun q => .inl (hO3 b q)) fun q => .inr ⟨q, a6.en.bound b h⟩, fun b h => ⟨st36.st b (hW3 b h).1 (hW3 b h).2.1, fun q => (st36.mu b q).elim (hW3 b h).2.1 fun z => lt_ge (hWlt b h) z (Nat.le_refl _), (hW3 b h).2.2⟩⟩ hfl
    exact Kp.mono (W := fun b => f.Mu b ∨ s.heap.objs.size ≤ b) (G := fun x => x = g) ((k13.mono (fun b h => .inl (.inl h)) fun _ h => .inl h).trans (st36.k.mono (fun b h => .inl (G.mu b h)) fun _ h => h.elim)) (fun b h => h.elim .inl fun q => .inr (get_none q)) fun _ h => .inl h
  have hdep : f.A.depth < recursionLimit := ac.go.dp
  refine wpAny_mono (gen_next ac.hh hdep hlim G.act.base G.act.tk G.gen) (fun rr s3 q3 => ?_) fun _ _ z => z.elim
  cases hf with
  | nil =>
    obtain ⟨k3, rfl⟩ := q3
    exact wpAny_execs_nil ⟨O', Mu', ⟨(G.k3 k3).mono (fun b h => .inl h) fun x h => .inr (h ▸ hg0), G.mu, G.o, G.st⟩, G.act.kpX k3 (G.off ac), rfl⟩
  | cons h1 h2 h3 =>
    obtain ⟨v', rfl, q⟩ := step q3 h1 h2 (Q := fun c s6 => match c with
      | .next | .cont => ∃ m, m < _ ∧ ∃ rest ρ', ∃ O' Mu' W Og : Addr → Prop, m = rest.length ∧ ForR l cx body tgt ρ' rest r ∧ GInv l cx f a g s rest ρ' O' Mu' W Og s6
      | .brk => Ran l cx f r s .next s6
      | .ret v => Ran l cx f r s (.ret v) s6) fun c O2 Mu2 W2 Og2 s6 G6 hfl => by
      cases hfl
      exact ⟨_, Nat.lt_succ_self _, _, _, O2, Mu2, W2, Og2, rfl, h3, G6⟩
    exact q
  | ret h1 h2 =>
    obtain ⟨v', rfl, q⟩ := step q3 h1 h2 (Q := fun c s6 => match c with
      | .next | .cont => ∃ m, m < _ ∧ ∃ rest ρ', ∃ O' Mu' W Og : Addr → Prop, m = rest.length ∧ ForR l cx body tgt ρ' rest _ ∧ GInv l cx f a g s rest ρ' O' Mu' W Og s6
      | .brk => Ran l cx f _ s .next s6
      | .ret v => Ran l cx f _ s (.ret v) s6) fun c O2 Mu2 W2 Og2 s6 G6 hfl => by
      obtain ⟨u, rfl, hu⟩ := hfl
      exact ⟨O2, Mu2, G6.fin hg0, G6.act, u, rfl, hu⟩
    exact q
end
end
section
open PySem.W.X
noncomputable def enumL : Nat → List Nat → List AV
  | _, [] => []
  | i, c :: r => .tup [.int i, .str ⟨#[c]⟩] :: enumL (i + 1) r
noncomputable def enumA (x : Str) : List AV := enumL 0 x.cps.toList
theorem enumL_get : ∀ {l : List Nat} {k i : Nat} {y : AV}, (enumL k l)[i]? = some y → ∃ c, l[i]? = some c ∧ y = .tup [.int ((k + i : Nat) : Int), .str ⟨#[c]⟩]
  | [], _, _, _, h => nomatch h
  | c :: r, k, 0, y, h => ⟨c, rfl, (Option.some.inj h).symm⟩
  | c :: r, k, i + 1, y, h => (enumL_get (l := r) h).imp fun c z => ⟨z.1, z.2.trans (by rw [Nat.add_assoc, Nat.add_comm 1])⟩
theorem enumL_len : ∀ (l : List Nat) (k : Nat), (enumL k l).length = l.length
  | [], _ => rfl
  | c :: r, k => congrArg (· + 1) (enumL_len r (k + 1))
section
variable {l : L} {cx : Cx} {f : Fm} {ρ ρ0 : Ro} {s s₀ s₁ : Shared} {A : Around} {O : Addr → Prop}
theorem HIts.pre {tgt xs it s'} (k : K0 s₀ s) (h : HIts l tgt xs O O s it s') : HIts l tgt xs O O s₀ it s' := let ⟨k', W, Sh, h1, h2⟩ := h; ⟨k.trans k', W, Sh, fun b hb => Nat.le_trans k.size (h1 b hb), h2⟩
theorem gi_list {tgt e xs} (ht : Tgt tgt) (hs : isSet e = false) (h : EV l cx ρ e (.list xs)) : GI l cx ρ tgt e xs := ⟨hs, fun f s a => h.go a .refl fun v s' k _ r =>
  wpAny_mono (its_list ht r (fun _ h => h) (a.gk k).bd (a.base.k0 k).tab) (fun _ _ => HIts.pre k) fun _ _ q => q⟩
theorem enum_nc {h : Heap} {N : Nat} {i j : Nat} {old : Value} {x : Str} {t : Tok} {ty : String} (st1 : IsEnum h (N + 1) N i old) (st2 : h.IsStrIter N ty x t j) : ∀ b, (b = N ∨ b = N + 1) → NC h b := by
  rintro b (rfl | rfl)
  · obtain ⟨o, e, _, hd⟩ := st2
    exact .of e fun fs t z => by cases hd.symm.trans z; exact fun e => nomatch e
  · exact .of st1 fun fs t z => by cases z; exact fun e => nomatch e
/-- an enumeration's step -/
theorem Kp.two {N : Nat} {h2 : Heap} {tk : Nat} {u : Shared} (hT : TA < N) (hk : ∀ b o, ¬ (b = N ∨ b = N + 1) → u.heap.get? b = some o → h2.get? b = some o) (hs : u.heap.objs.size ≤ h2.objs.size) (htk : 0 < u.toks → 0 < tk) (hnc : ∀ b, (b = N ∨ b = N + 1) → NC u.heap b) :
    Kp (fun b => b = N ∨ b = N + 1) (fun _ => False) u { u with heap := h2, toks := tk } := by
  have hTA : ¬ (TA = N ∨ TA = N + 1) := fun q => q.elim (Nat.ne_of_lt hT) (Nat.ne_of_lt (Nat.lt_succ_of_lt hT))
  refine ⟨fun b o _ hb e => hk b o hb e, hs, fun ⟨v, e⟩ => ⟨v, hk _ _ hTA e⟩, Nat.le_refl _, fun _ _ _ e => e, fun e => e, rfl, htk, CodesOk.step (fun o e => hk _ _ hTA e) fun b o _ e => ?_⟩
  by_cases q : b = N ∨ b = N + 1
  · exact .inr (hnc b q)
  · exact .inl (hk b o q e)
theorem its_enum {es : List Expr} {kt : Nat} {pt : Pos} {x : Str} {t : Tok} (hx : asciiS x = true) (hO : ∀ b, O b → b < s.heap.objs.size) (ht : Tab s.heap) :
    wpAny l.M A (call (.type "enumerate") [.str x t]) (fun v s₁ => wpAny l.M A (pyIter v) (HIts l (.Tuple es kt pt) (enumA x) O O s) NoE s₁) NoE s := by
  have hTA := TA_lt ht
  refine call_enumerate_str fun h' he hit hsz hkeep => wpAny_pyIter_enum he ?_
  rw [show strIterType x = "str_ascii_iterator" from if_pos hx] at hit
  have l1 : s.heap.objs.size < h'.objs.size := by rw [hsz]; exact Nat.lt_add_of_pos_right (by decide)
  have l2 : s.heap.objs.size + 1 < h'.objs.size := by rw [hsz]; exact Nat.add_lt_add_left (by decide) _
  refine ⟨K0.heap1 hkeep (Nat.le_of_lt l1), fun b => b = s.heap.objs.size ∨ b = s.heap.objs.size + 1, fun i h => (∃ old, IsEnum h (s.heap.objs.size + 1) s.heap.objs.size i old) ∧ h.IsStrIter s.heap.objs.size "str_ascii_iterator" x t i, fun b hb => hb.elim (fun e => Nat.le_of_eq e.symm) fun e => e ▸ Nat.le_succ _, fun A₂ hh => ?_⟩
  generalize s.heap.objs.size = N at *
  have D := Draws.strAscii (prog := l.prog) (w := l.w) (A := A₂.in1) hh N x t
  have hlen : (enumA x).length = x.cps.size := (enumL_len _ _).trans Array.length_toList
  have hnO : ∀ b, (b = N ∨ b = N + 1) → ¬ O b := fun b hb q => hb.elim (fun e => Nat.lt_irrefl _ (e ▸ hO b q)) fun e => Nat.lt_irrefl _ (Nat.lt_of_succ_lt (e ▸ hO b q))
  refine ⟨⟨⟨_, he⟩, hit⟩, fun i u u' st F => ?_, fun i y u hy st _ _ => ?_, fun u st _ => ?_, fun i u st => ?_, fun b hb => hb.elim (fun e => e ▸ l1) fun e => e ▸ l2⟩
  · obtain ⟨⟨old, st1⟩, o, ho, r⟩ := st
    exact ⟨⟨old, F.heap _ _ l2 (hnO _ (.inr rfl)) (Nat.ne_of_gt (Nat.lt_succ_of_lt hTA)) st1⟩, o, F.heap _ _ l1 (hnO _ (.inl rfl)) (Nat.ne_of_gt hTA) ho, r⟩
  · obtain ⟨⟨old, st1⟩, st2⟩ := st
    have hi : i < x.cps.size := hlen ▸ (List.getElem?_eq_some_iff.mp hy).1
    obtain ⟨c, hc, rfl⟩ := enumL_get hy
    rw [Array.getElem?_toList] at hc
    have hltE : (N + 1 : Addr) < u.heap.objs.size := Heap.lt_size st1
    refine wpAny_pyNext_enum_itemD D st1 st2 hi (Nat.succ_ne_self _) (by simp) fun y' h1 tk hP ho hs' hT hz1 hk => ⟨_, rfl, wpAny_letOwnedTupleGo_enum ho fun h2 he2 hs2 => ?_⟩
    obtain ⟨c', u', hc', rfl⟩ := hP
    cases hc.symm.trans hc'
    have hT2 : h2.get? u.heap.objs.size = some { cls := .type "tuple", data := .seq #[.int i tk, .str ⟨#[c]⟩ u'] } := (hs2.2 _ (Nat.ne_of_gt hltE)).trans hT
    refine ⟨rd_tup.mpr ⟨_, _, 0, rfl, fun z => ?_, Nat.ne_of_gt (Nat.lt_trans (Nat.lt_succ_of_lt hTA) hltE), hT2, by rw [sizeLine_eq]; exact (by decide : 2 ≤ 16777216), .cons (rd_int.mpr ⟨tk, by rw [Nat.zero_add]⟩) (.single (rd_str.mpr ⟨u', rfl, by rw [sizeLine_eq]; exact (by decide : 1 ≤ 16777216)⟩))⟩,
      ⟨⟨_, he2⟩, hs'.elim fun o z => ⟨o, (hs2.2 _ (Nat.ne_of_lt (Nat.lt_succ_self _))).trans z.1, z.2⟩⟩, Kp.two hTA (fun b o hb e => (hs2.2 b fun q => hb (.inr q)).trans (hk b o (fun q => hb (.inr q)) (fun q => hb (.inl q)) e)) (by rw [hs2.1, hz1]; exact Nat.le_succ _) (fun _ => Nat.succ_pos _) (enum_nc st1 st2)⟩
    exact z.elim (fun q => Nat.lt_irrefl _ (Nat.lt_trans (hO _ q) (Nat.lt_of_succ_lt hltE))) fun z => z.elim (fun z => z.elim (Nat.ne_of_gt (Nat.lt_of_succ_lt hltE)) (Nat.ne_of_gt hltE)) fun z => Nat.lt_irrefl _ z.2
  · obtain ⟨⟨old, st1⟩, st2⟩ := st
    rw [hlen] at st1 st2
    exact with_tk (with_size (wpAny_pyNext_enum_endD D st1 st2 fun h2 hx2 hz2 htk2 => ⟨rfl, Kp.two hTA (fun b o hb e => hx2 b o (fun q => hb (.inl q)) e) hz2 htk2 (enum_nc st1 st2)⟩))
  · obtain ⟨⟨old, st1⟩, st2⟩ := st
    exact wpAny_pyIter_enum st1 ⟨rfl, rfl⟩
theorem gi_enum {es kt pt a q pos x} (T : TopIs l.h) (hg : (kGlob cx "enumerate" && !isStar a) = true) (h : EV l cx ρ a (.str x)) (hx : asciiS x = true) : GI l cx ρ (.Tuple es kt pt) (.Call (.Name "enumerate" q) [a] [] pos) (enumA x) := ⟨rfl, fun f s ac => by
  rw [Bool.and_eq_true, Bool.not_eq_true'] at hg
  exact wpAny_Call_NameR (glob_ok ac hg.1 T.enum (args_ok rfl (.cons hg.2 h .nil) ac .refl .type fun vs s' k _ r => r.oneE fun v r => r.strE fun t _ =>
    wpAny_mono (its_enum hx (ac.gk k).bd (ac.base.k0 k).tab) (fun _ _ z => wpAny_mono z (fun _ _ => HIts.pre k) fun _ _ q => q) fun _ _ q => q))⟩
/-- a call of a generator function -/
theorem gen_go {g p args pos as ys} {Q : Value → Shared → Prop} (hg : (kGlob cx g && !args.isEmpty) = true) (h : EVs l cx ρ args as) (hr : GF l g as ys) (ac : Act l cx f ρ s) (n : ∀ v s', GM l f.O ys s v s' → Q v s') : wpAny l.M f.A (eval (.Call (.Name g p) args [] pos) f.env) Q NoE s := by
  rw [Bool.and_eq_true, Bool.not_eq_true'] at hg
  obtain ⟨fv, g1, g2, g3⟩ := hr
  exact wpAny_Call_NameR (glob_ok ac hg.1 g1 (args_ok hg.2 h ac .refl g2 fun vs s' k _ rl => wpAny_mono (g3 f.A s' f.O vs (ac.gk k) rl) (fun v s'' q => n v s'' (q.pre k)) fun _ _ q => q))
theorem list_GM {ys v} (T : TopIs l.h) (ac : Act l cx f ρ s₀) (q : GM l f.O ys s₀ v s) (hz : ys.length ≤ 1000000) : wpAny l.M f.A (call (.type "list") [v]) (Ends f.O s₀ (.list ys)) NoE s := by
  cases q with
  | mk a g W Og k e3 e4 e5 e6 e7 e8 =>
    have hu : ∀ n, n ≤ 10 → f.A.units + n + (90 + 20 * l.d) < cLine := fun n hn => Nat.lt_of_le_of_lt (by rw [Nat.add_assoc, ← Nat.add_assoc n]; exact Nat.add_le_add_left (Nat.add_le_add_right (Nat.add_le_add_right hn 90) _) _) ac.uni
    exact wpAny_mono (list_gen ac.hh ac.go.dp T.lim (e8 f.A.in1.in1.in1 ac.hh ac.dep (hu 3 (by decide))) (fun b h => Nat.le_trans ac.base.size (e5 b h)) (Nat.le_trans hz (by rw [sizeLine_eq]; decide)) (ac.base.k0 k) (k.tk ac.tk)) (fun v s₂ q2 =>
      ⟨Kp.mono (W := W) (G := fun x => x = g) (k.toW.trans q2.1) (fun b h => .inr (get_none (e5 b h))) fun x h => .inr (h ▸ e4), q2.2.up e6⟩) fun _ _ z => z
theorem EE_listG {g lp fp p pos args as ys} (T : TopIs l.h) (hl : kGlob cx "list" = true) (hg : (kGlob cx g && !args.isEmpty) = true) (h : EVs l cx ρ args as) (hy : GF l g as ys) (hz : ys.length ≤ 1000000) : EV l cx ρ (.Call (.Name "list" lp) [.Call (.Name g fp) args [] p] [] pos) (.list ys) := .mk fun f s ac =>
  wpAny_Call_NameR (glob_ok ac hl T.list (PySem.callWith_type rfl (Calls.evalArgs_plain (show wpAny l.M f.A (spliced [(false, eval (.Call (.Name g fp) args [] p) f.env)]) _ NoE s from Calls.spliced_cons (gen_go hg h hy ac fun v s₁ q => Calls.spliced_nil (list_GM T ac q hz))))))
theorem SS_forG {tgt g fp args q body p as ys r} (T : TopIs l.h) (ht : Tgt tgt) (hf : frzM (namesIn (.Call (.Name g fp) args [] q)) ρ = ρ0) (hg : (kGlob cx g && !args.isEmpty) = true) (h : EVs l cx ρ0 args as) (hy : GF l g as ys) (hb : ForR l cx body tgt ρ0 ys r) :
    SS l cx ρ (.For tgt (.Call (.Name g fp) args [] q) body [] p) r := .frz hf <| .mk fun f s a => by
  refine wpAny_For (gen_go hg h hy a fun v s₁ q => ?_) (noFold rfl)
  cases q with
  | mk aa g W Og k e3 e4 e5 e6 e7 e8 =>
    have hG := e8 f.A.in1 a.hh a.dep (Nat.lt_of_le_of_lt (by show f.A.units + 1 + (90 + 20 * l.d) ≤ f.A.units + (100 + 20 * l.d); rw [Nat.add_assoc, ← Nat.add_assoc 1]; exact Nat.add_le_add_left (Nat.add_le_add_right (by decide) _) _) a.uni)
    exact wpAny_pyIter_gen hG.gen (forGen_ok ht T.lim k e4 hG e5 e6 hb a)
end
end
theorem frzM_all {ns : List Str} : ∀ {ρ : Ro}, allFz ρ = true → frzM ns ρ = ρ
  | [], _ => rfl
  | (x, .fz a) :: r, h => fm_fz (frzM_all (ρ := r) h)
  | (x, .own a) :: r, h => Bool.noConfusion h
theorem cap_nil {ρ : Ro} : capA ρ [] = [] := rfl
theorem cap_hit {ρ : Ro} {n : Str} {a : AV} {r r'} (h : ρ.lookup n = some (.fz a)) (h2 : capA ρ r = r') : capA ρ ((n, .free) :: r) = (n, .fz a) :: r' := by
  unfold capA Ro.get; rw [h, h2]; rfl
theorem cap_miss {ρ : Ro} {n : Str} {k : NameKind} {r r'} (h : (k == .free) = false) (h2 : capA ρ r = r') : capA ρ ((n, k) :: r) = r' := by
  unfold capA; rw [h, h2]; rfl
theorem flat_one {α β : Type} (f : α → β) (l : List α) : l.flatMap (fun x => [f x]) = l.map f := by
  induction l with
  | nil => rfl
  | cons x l ih => rw [List.flatMap_cons, ih]; rfl
theorem asgT_pair {cx ρ es i p} {q : Int × Int} {ρ'} (h : AsgN cx ρ es [.int q.1, .int q.2] ρ') : AsgT cx ρ (.Tuple es i p) (pairAV q) ρ' := .tup h
theorem range_3 : RgOk 0 3 [.int 0, .int 1, .int 2] := ⟨by kernel_rfl⟩
theorem range_4 : RgOk 0 4 [.int 0, .int 1, .int 2, .int 3] := ⟨by kernel_rfl⟩
theorem range_5 : RgOk 0 5 [.int 0, .int 1, .int 2, .int 3, .int 4] := ⟨by kernel_rfl⟩
theorem range_9 : RgOk 0 9 [.int 0, .int 1, .int 2, .int 3, .int 4, .int 5, .int 6, .int 7, .int 8] := ⟨by kernel_rfl⟩
theorem range_14 : RgOk 1 4 [.int 1, .int 2, .int 3] := ⟨by kernel_rfl⟩
theorem range_24 : RgOk 2 4 [.int 2, .int 3] := ⟨by kernel_rfl⟩
theorem range_34 : RgOk 3 4 [.int 3] := ⟨by kernel_rfl⟩
theorem range_44 : RgOk 4 4 [] := ⟨by kernel_rfl⟩
theorem rg_of {n : Nat} (h : n < 1000000) : RgOk 0 (n : Int) (intsFrom 0 n) := ⟨by unfold rangeA; rw [if_pos (by omega)]; rfl⟩
theorem zip_1 {ys} : zipA [] ys = [] := by cases ys <;> rfl
noncomputable def cxOf (st : Stmt) : Cx := ⟨scopeOf st, ownOf (scopeOf st)⟩
/-- the class of things -/
structure ClsIs (h₁ : Heap) (fI : Addr) : Prop where
  cls : ∃ nm q N bs sn sub col dd k0 k1 k2 k3 k5 mN, h₁.get? CA = some (excClassObj nm q CA N bs [.type "object"] true sn sub false col dd k0 k1 k2 k3 k5 "object.__new__") ∧ N ≠ TA ∧ h₁.Ns N mN ∧
    mN "__init__" = some (.ref fI) ∧ mN "__getattribute__" = none ∧ mN "__setattr__" = none ∧ mN "tag" = none ∧ mN "root" = none
  ini : ∃ fd o b p1 p2 p3 p4, FnIs h₁ fI fd b ["self", "root"] false ∧ h₁.get? fI = some o ∧ o.cls = .type "function" ∧ b = [.Assign [.Attribute (.Name "self" p1) "root" p2] (.Name "root" p3) p4] ∧ kLoc (fnCx fd) "self" = true ∧ kLoc (fnCx fd) "root" = true
/-- the class, in a later heap -/
theorem ClsIs.at_ {h₁ h : Heap} {fI : Addr} {G : Prop} (C : ClsIs h₁ fI) (B : Base h₁ h)
    (k : ∀ nm q N bs sn sub col dd k0 k1 k2 k3 k5 mN, h.get? CA = some (excClassObj nm q CA N bs [.type "object"] true sn sub false col dd k0 k1 k2 k3 k5 "object.__new__") → h.Ns N mN → mN "__init__" = some (.ref fI) → mN "__getattribute__" = none → mN "__setattr__" = none → mN "tag" = none → mN "root" = none → G) : G := by
  obtain ⟨nm, q, N, bs, sn, sub, col, dd, k0, k1, k2, k3, k5, mN, c1, c2, c3, c4, c5, c6, c7, c8⟩ := C.cls
  exact k nm q N bs sn sub col dd k0 k1 k2 k3 k5 mN (B.keep _ _ (by decide) c1) (ns_keep B c2 c3) c4 c5 c6 c7 c8
/-- an object with its dict -/
structure InstAt (h : Heap) (x dx : Addr) (mA : Str → Option Value) (ns : List Str) : Prop where
  inst : h.Inst x CA mA
  dict : ∀ o, h.get? x = some o → o.dict = some dx
  ne : x ≠ TA ∧ dx ≠ TA
  ways : Within mA ns
  few : ns.length ≤ 5
theorem InstAt.dx_ns {h : Heap} {x dx : Addr} {mA ns} (i : InstAt h x dx mA ns) : h.Ns dx mA := by
  obtain ⟨o, hx, hc, hnc, hd⟩ := i.inst
  have := i.dict o hx
  rcases hd with ⟨q, _⟩ | ⟨d', e, _, q⟩
  · rw [q] at this; cases this
  · rw [e] at this; cases this; exact q.ns
theorem InstAt.kp {W G} {s s' : Shared} {x dx : Addr} {mA ns} (i : InstAt s.heap x dx mA ns) (k : Kp W G s s') (hx : ¬ W x) (hd : ¬ W dx) : InstAt s'.heap x dx mA ns := by
  obtain ⟨o, e, hc, hnc, hdd⟩ := i.inst
  have hdo := i.dict o e
  have e' := k.heap x o i.ne.1 hx e
  refine ⟨⟨o, e', hc, hnc, ?_⟩, fun o' q => by cases e'.symm.trans q; exact hdo, i.ne, i.ways, i.few⟩
  rcases hdd with q | ⟨d', e1, e2, e3⟩
  · exact .inl q
  · cases hdo.symm.trans e1
    exact .inr ⟨dx, e1, e2, e3.at fun o e => k.heap dx o i.ne.2 hd e⟩
section
variable {l : L} {A : Around} {s : Shared} {O : Addr → Prop}
theorem setattr_ok {fI x dx : Addr} {mA : Str → Option Value} {ns : List Str} {attr : Str} {v : Value} (C : ClsIs l.h fI) (B : Base l.h s.heap) (ha : attr = "tag" ∨ attr = "root") (i : InstAt s.heap x dx mA ns) (hns : ns.length ≤ 4) :
    wpAny l.M A (setAttr (.ref x) attr v) (fun _ s' => Kp (fun b => b = dx) (fun _ => False) s s' ∧ InstAt s'.heap x dx (fun y => if y = attr then some v else mA y) (attr :: ns)) NoE s := C.at_ B fun nm q N bs sn sub col dd k0 k1 k2 k3 k5 mN hC hn _ _ c6 c7 c8 => by
  have hna : mN attr = none := ha.elim (fun e => e ▸ c7) fun e => e ▸ c8
  have hB : typeLookup (.type "object") attr = pure none := by
    rw [typeLookup_type, builtinLookup_eq_fast]
    rcases ha with rfl | rfl <;> kernel_rfl
  obtain ⟨o₀, hx₀, hc₀, _⟩ := i.inst
  have hxC : x ≠ CA := fun e => by
    rw [e, hC] at hx₀; cases hx₀; cases hc₀
  have hd₀ := i.dict o₀ hx₀
  have hdn := i.dx_ns
  obtain ⟨hp, g, d', t, os⟩ := s
  refine with_tk (with_size (store_attr (ns := ns) PySem.F.store_object hC hn c6 hna hB hxC i.inst (fun h' tk' I' hk hsame hz htk => ?_) i.ways (by rw [sizeLine_eq]; exact Nat.le_trans hns (by decide))))
  obtain ⟨o₁, e1, e2, e3, e4, e5⟩ := hsame o₀ hx₀
  have e6 := e5 dx hd₀
  have eo : o₁ = o₀ := by
    cases o₁; cases o₀
    simp only at e2 e3 e4 e6 hd₀
    rw [e2, e3, e4, e6, hd₀]
  subst eo
  have keep : ∀ b o, b ≠ dx → hp.get? b = some o → h'.get? b = some o := fun b o hb e => by
    by_cases q : b = x
    · subst q; cases hx₀.symm.trans e; exact e1
    · exact hk b o q (fun o₂ d₂ q1 q2 => by cases hx₀.symm.trans q1; cases hd₀.symm.trans q2; exact hb) e
  exact ⟨⟨fun b o _ hb e => keep b o hb e, hz, fun ⟨vs, e⟩ => ⟨vs, keep _ _ (Ne.symm i.ne.2) e⟩, Nat.le_refl _, fun _ _ _ e => e, fun e => e, rfl, htk, CodesOk.but keep i.ne.2 (.ns hdn)⟩, I', fun o e => by cases e1.symm.trans e; exact hd₀, i.ne, Within.cons attr v i.ways, Nat.succ_le_succ hns⟩
end
/-- addresses that are not, and never will be -/
noncomputable def Gone (Z : Addr → Prop) (h : Heap) : Prop := ∀ b, Z b → b < h.objs.size ∧ h.get? b = none
theorem Gone.push {Z : Addr → Prop} {h : Heap} (g : Gone Z h) (o : Obj) : Gone Z (h.push o) := fun b hb => by
  obtain ⟨h1, h2⟩ := g b hb
  refine ⟨by rw [Heap.size_push]; exact Nat.lt_succ_of_lt h1, ?_⟩
  cases e : (h.push o).get? b with
  | none => rfl
  | some x =>
    obtain ⟨e1, e2⟩ := Heap.get?_some_iff.mp e
    have hne : b ≠ h.objs.size := Nat.ne_of_lt h1
    have : h.objs[b]? = some x := by
      cases h; simp only [Heap.push] at e1
      rw [Array.getElem?_push] at e1
      rw [if_neg hne] at e1
      exact e1
    rw [Heap.get?_some_iff.mpr ⟨this, e2⟩] at h2; cases h2
theorem Gone.update {Z : Addr → Prop} {h : Heap} (g : Gone Z h) {a : Addr} (f : Obj → Obj) (ha : (h.get? a).isSome) : Gone Z (h.update a f) := fun b hb => by
  obtain ⟨h1, h2⟩ := g b hb
  have hne : a ≠ b := fun q => by subst q; rw [h2] at ha; cases ha
  exact ⟨by rw [upd_size]; exact h1, (Heap.get?_update_other h f hne).trans h2⟩
theorem runs_gone {M : Model} {Γ : Ctx} {p : Pos} {t : Sem PySem.Fin} {fs : List Frame} {s s' : Shared} {e : End} {Z : Addr → Prop} (h : Runs M Γ p t fs s e s') : Gone Z s.heap → Gone Z s'.heap := by
  induction h with
  | update hs _ ih => exact fun g => ih (g.update _ hs)
  | alloc _ ih => exact fun g => ih (g.push _)
  | _ => (try simp only [Shared.setGen] at *) <;> first | assumption | (intro g; exact g) | (intro g; (repeat first | exact g | (rename_i ih; exact ih g) | (rename_i ih1 ih2; exact ih2 (ih1 g)) | (rename_i ih1 _ ih2; exact ih2 (ih1 g)) | (rename_i ih1 ih2 _; exact ih2 (ih1 g))))
theorem returns_gone {M : Model} {Γ : Ctx} {p : Pos} {s s' : Shared} {r : Result} {Z : Addr → Prop} (h : Returns M Γ p s r s') (g : Gone Z s.heap) : Gone Z s'.heap := runs_gone h g
theorem wakes_gone {M : Model} {Γ : Ctx} {p : Pos} {g : Nat} {r : Resume} {s s' : Shared} {res : GenResult} {Z : Addr → Prop} (h : Wakes M Γ p g r s res s') (z : Gone Z s.heap) : Gone Z s'.heap := by
  unfold Wakes at h
  split at h
  · exact h.elim
  · split at h
    · obtain ⟨e₁, s₁, hr, _, _, rfl⟩ := h; exact (runs_gone hr (show Gone Z (s.setGen g .running).heap from z) : Gone Z s₁.heap)
    · rw [h.2]; exact z
    · rw [h.2]; exact z
  · obtain ⟨e₁, s₁, hr, _, _, rfl⟩ := h; exact (runs_gone hr (show Gone Z (s.setGen g .running).heap from z) : Gone Z s₁.heap)
  all_goals exact h.2 ▸ z
open Sem in
theorem wp_gone {α : Type} (M : Model) (Γ : Ctx) (Z : Addr → Prop) (t : Sem α) : ∀ (Q : α → Pos → Shared → Prop) (E : Value → Pos → Shared → Prop) (p : Pos) (s : Shared), Gone Z s.heap → wp M Γ t Q E p s →
    wp M Γ t (fun a p' s' => Gone Z s'.heap ∧ Q a p' s') (fun e p' s' => Gone Z s'.heap ∧ E e p' s') p s := by
  induction t with
  | pure a => intro Q E p s hn h; exact ⟨hn, h⟩
  | raise e => intro Q E p s hn h; exact ⟨hn, h⟩
  | unsupported _ => intro Q E p s _ h; exact h
  | finish _ => intro Q E p s _ h; exact h
  | rule _ k ih => intro Q E p s hn h; exact ih () Q E p s hn h
  | «at» p' k ih => intro Q E p s hn h; exact ih () Q E p' s hn h
  | load a _ k ih => intro Q E p s hn h; obtain ⟨o, ho, h⟩ := h; exact ⟨o, ho, ih o Q E p s hn h⟩
  | update a _ f k ih => intro Q E p s hn h; exact ⟨h.1, ih () Q E p _ (hn.update _ h.1) h.2⟩
  | loadIfAlive a k ih => intro Q E p s hn h; exact ih _ Q E p s hn h
  | point _ k ih => intro Q E p s hn h; exact ih () Q E p s hn h
  | register _ _ => intro Q E p s _ h; exact h
  | alloc o k ih => intro Q E p s hn h; exact ih _ Q E p _ (hn.push _) h
  | fresh k ih => intro Q E p s hn h; exact ih _ Q E p _ hn h
  | ask k ih => intro Q E p s hn h; exact ih _ Q E p s hn h
  | choose src m k ih => intro Q E p s hn h; exact ⟨h.1, ih _ Q E p _ hn h.2⟩
  | os q _ k ih => intro Q E p s hn h; exact ih _ Q E p _ hn h
  | call c hd _ _ k ih => intro Q E p s hn h; obtain ⟨r, s', hr, h⟩ := h; exact ⟨r, s', hr, ih r Q E p s' (returns_gone hr hn) h⟩
  | handled own k ih => intro Q E p s hn h; exact ih _ Q E p s hn h
  | genState g k ih => intro Q E p s hn h; obtain ⟨st, hs, h⟩ := h; exact ⟨st, hs, ih _ Q E p s hn h⟩
  | newGen c k ih => intro Q E p s hn h; exact ih _ Q E p _ hn h
  | resume g r _ k ih => intro Q E p s hn h; obtain ⟨res, s', hw, h⟩ := h; exact ⟨res, s', hw, ih res Q E p s' (wakes_gone hw hn) h⟩
  | yield _ _ _ _ => intro Q E p s _ h; exact h
  | stack k ih => intro Q E p s hn h; exact ih _ Q E p s hn h
  | fork _ _ => intro Q E p s _ h; exact h
  | thread k ih => intro Q E p s hn h; exact ih _ Q E p s hn h
  | await _ _ _ _ _ => intro Q E p s _ h; exact h
/-- what was not, and stands after, is new -/
theorem with_new {α : Type} {M : Model} {A : Around} {s : Shared} {t : Sem α} {Q : α → Shared → Prop} {E : Value → Shared → Prop}
    (h : wpAny M A t (fun a s' => (∀ b o, s.heap.get? b = none → s'.heap.get? b = some o → s.heap.objs.size ≤ b) → Q a s') E s) : wpAny M A t Q E s :=
  fun Γ p hΓ =>
    have h2 := wp_gone M Γ (fun b => b < s.heap.objs.size ∧ s.heap.get? b = none) t (fun a _ s' => (∀ b o, s.heap.get? b = none → s'.heap.get? b = some o → s.heap.objs.size ≤ b) → Q a s') (fun e _ s' => E e s') p s (fun b hb => hb) (h Γ p hΓ)
    Sem.wp_mono M Γ t (fun _ _ s' q => q.2 fun b o h1 h2 => Nat.le_of_not_lt fun h3 => nomatch (q.1 b ⟨h3, h1⟩).2.symm.trans h2) (fun _ _ _ q => q.2) p s h2
section
variable {l : L} {A : Around} {s : Shared} {O : Addr → Prop}
noncomputable abbrev rootM : Str → Option Value := fun y => if y = ("root" : Str) then some .none else none
theorem init_ok {fI x dx : Addr} (C : ClsIs l.h fI) (hlim : l.h.NoLimit) (g : Go l.up A (fun _ => False) s) (i : InstAt s.heap x dx (fun _ => none) []) :
    wpAny l.M A (call (.ref fI) [.ref x, .none]) (fun r s' => r = .none ∧ Kp (fun b => b = dx) (fun _ => False) s s' ∧ InstAt s'.heap x dx rootM ["root"]) NoE s := by
  obtain ⟨fd, o, b, p1, p2, p3, p4, F, g1, g2, rfl, k1, k2⟩ := C.ini
  refine fn_enter (l := l) (as := [.prim (.ref x), .none]) F hlim rfl g (.cons (rd_prim.mpr rfl) (.cons (rd_none.mpr rfl) .nil)) fun f s₁ op => ?_
  refine wpAny_execs_cons (plainObj_wpAny_Assign_Attribute ((EE_loc k2 rfl).go op.act .refl fun v s₂ q2 _ r2 => r2.noneE ((EE_loc k1 rfl).go op.act q2 fun ov s₃ q3 _ r3 => ?_)))
  cases rd_prim.mp r3
  have kk : K0 s s₃ := op.k.trans q3
  exact wpAny_mono (setattr_ok C (op.act.base.k0 q3) (.inr rfl) (i.kp kk (fun h => h) fun h => h) (by decide)) (fun _ s₄ q4 => wpAny_execs_nil ⟨rfl, kk.toW.trans q4.1, q4.2⟩) fun _ _ z => z
/-- a new thing, without its tag -/
theorem make_ok {fI : Addr} (C : ClsIs l.h fI) (hlim : l.h.NoLimit) (g : Go l.up.up A O s) :
    wpAny l.M A (call (.ref CA) [.none]) (fun r s' => ∃ x dx, r = .ref x ∧ K0 s s' ∧ s.heap.objs.size ≤ x ∧ s.heap.objs.size ≤ dx ∧ InstAt s'.heap x dx rootM ["root"]) NoE s := C.at_ g.base fun nm q N bs sn sub col dd k0 k1 k2 k3 k5 mN hC hn c4 _ _ _ _ => by
  obtain ⟨fdI, oI, b, p1, p2, p3, p4, FI, g1, g2, _⟩ := C.ini
  have hfI := g.base.keep _ _ FI.ta g1
  obtain ⟨vs, hT⟩ := g.base.tab
  obtain ⟨hp, gs, d', tk, os⟩ := s
  refine with_new (wpAny_call_obj_init PySem.F.objNew hC hn c4 hfI g2 fun h' x dx M => ?_)
  have k2 : K0 ⟨hp, gs, d', tk, os⟩ ⟨h', gs, d', tk, os⟩ := K0.keep (s := ⟨hp, gs, d', tk, os⟩) M.keeps M.grows fun h => h
  have nT : ∀ {y}, hp.get? y = none → y ≠ TA := fun e q => by subst q; cases hT.symm.trans e
  have i : InstAt h' x dx (fun _ => none) [] := ⟨M.inst, M.dict, ⟨nT M.newX, nT M.newD⟩, Within.nil, by decide⟩
  have h20 : (Code.builtin "type.__call__" ⟨[.ref CA, .none], []⟩).cUnits ≤ 20 := by decide
  refine wpAny_mono (init_ok (s := ⟨h', gs, d', tk, os⟩) C hlim ⟨g.hh, ?_, ?_, g.tk, g.base.k0 k2, fun _ h => h.elim⟩ i) (fun r s' q' => ⟨q'.1, fun hnew => ?_⟩) fun _ _ z => z
  · exact Nat.lt_of_le_of_lt (Nat.le_of_eq (by show A.depth + 1 + (l.d + 1) = A.depth + (l.d + 1 + 1); rw [Nat.add_assoc, Nat.add_comm 1])) g.dep
  · refine Nat.lt_of_le_of_lt ?_ g.uni
    show A.units + _ + (100 + 20 * (l.d + 1)) ≤ A.units + (100 + 20 * (l.d + 1 + 1))
    rw [Nat.add_assoc, Nat.mul_succ 20 (l.d + 1), ← Nat.add_assoc 100, Nat.add_comm (_ + _) 20]
    exact Nat.add_le_add_left (Nat.add_le_add_right h20 _) _
  · obtain ⟨q1, q2, q3⟩ := q'
    obtain ⟨ox, e1, _⟩ := q3.inst
    obtain ⟨od, _, _, e2, _⟩ := q3.dx_ns
    exact ⟨x, dx, rfl, Kp.mono (W := fun b => b = dx) (G := fun _ => False) (k2.toW.trans q2) (fun b h => .inr (h ▸ M.newD)) fun _ h => h.elim, hnew x ox M.newX e1, hnew dx od M.newD e2, q3⟩
theorem thing_ok {fa fI : Addr} {fd : FuncData} {kk : Nat} {q1 q2 q3 q4 q5 q6 q7 q8 q9 q10 q11 : Pos} {t : AV} (C : ClsIs l.h fI) (hlim : l.h.NoLimit)
    (F : FnIs l.h fa fd [.Assign [.Name "thing" q1] (.Call (.Name "_SelectorContext" q2) [.Constant .none kk q3] [] q4) q5, .Assign [.Attribute (.Name "thing" q6) "tag" q7] (.Name "name" q8) q9, .Return (some (.Name "thing" q10)) q11] ["name"] false)
    (hg : GlobIs l.h "_SelectorContext" (.ref CA)) (h0 : canStore (fnCx fd) "thing" = true) (h1 : kLoc (fnCx fd) "thing" = true) (h2 : kLoc (fnCx fd) "name" = true) (h3 : kGlob (fnCx fd) "_SelectorContext" = true) :
    FnOk l.up.up.up (.ref fa) [t] (.thing t) := fun A s O vs g hvs => hvs.oneE fun v0 hv0 => by
  refine fn_enter (l := l.up.up) (as := [.prim v0]) F hlim rfl g (.single (rd_prim.mpr rfl)) fun f s₁ op => ?_
  have a := op.act
  refine wpAny_execs_cons (wpAny_Assign_Name (wpAny_Call_NameR (glob_ok a h3 hg ?_)) rfl)
  refine C.at_ a.base fun nm q N bs sn sub col dd k0 k1 k2 k3 k5 mN hC hn _ _ _ _ _ => ?_
  refine callWith_cls (h₀ := s₁.heap) (N := N) (mN := mN) ⟨⟨nm, q, bs, sn, sub, col, dd, k0, k1, k2, k3, k5, hC⟩, hn⟩ ?_
  show wpAny _ _ (spliced [(false, eval (.Constant .none kk q3) _)]) _ _ _
  refine Calls.spliced_cons (wpAny_Constant_none (Calls.spliced_nil ⟨fun b o e => e, ?_⟩))
  refine wpAny_mono (make_ok (l := l) C hlim a.go) (fun r s₂ q2 => ?_) fun _ _ z => z
  obtain ⟨x, dx, rfl, kx, gx, gdx, i⟩ := q2
  have a2 := a.addO (W := fun b => b = dx) kx fun b hb => hb ▸ ⟨gdx, i.dx_ns.lt⟩
  have nMu : ∀ b, s₁.heap.objs.size ≤ b → ¬ f.Mu b := fun b hb q => Nat.lt_irrefl _ (Nat.lt_of_lt_of_le (a.en.bound _ (a.en.muO _ q)) hb)
  refine bindF_ok (f := f.up (fun b => f.O b ∨ b = dx) f.Mu) (x := .prim (.ref x)) a2 h0 (rd_prim.mpr rfl) fun s₃ q3 => ?_
  refine wpAny_execs_cons (plainObj_wpAny_Assign_Attribute ((EE_loc h2 rfl).go (f := f.up (fun b => f.O b ∨ b = dx) f.Mu) q3.2 .refl fun v s₄ k4 _ hv => ?_))
  cases rd_prim.mp hv
  refine (EE_loc h1 rfl).go (f := f.up (fun b => f.O b ∨ b = dx) f.Mu) q3.2 k4 fun ov s₅ k5' _ hov => ?_
  cases rd_prim.mp hov
  have a5 := q3.2.k0 k5'
  refine wpAny_mono (setattr_ok C a5.base (.inl rfl) (i.kp (q3.1.trans k5'.toW) (nMu x gx) (nMu dx gdx)) (by decide)) (fun _ s₆ q6 => ?_) fun _ _ z => z
  obtain ⟨k6, i6⟩ := q6
  have sz : s.heap.objs.size ≤ s₁.heap.objs.size := op.k.size
  have a6 := a5.kpX k6 fun b hb => by
    subst hb
    have env := op.env
    refine ⟨.inr rfl, nMu b gdx, fun q => ?_, fun n q => ?_, Nat.le_trans a.base.size gdx⟩
    · obtain ⟨m, hm⟩ := a.en.ns
      exact Nat.lt_irrefl _ (Nat.lt_of_lt_of_le hm.lt (q ▸ gdx))
    · exact Nat.lt_irrefl _ (Nat.lt_of_lt_of_le (a.en.bound _ (a.en.cells n b q).1) gdx)
  refine wpAny_execs_cons (wpAny_Return_some ((EE_loc h1 rfl).go (f := f.up (fun b => f.O b ∨ b = dx) f.Mu) a6 .refl fun v s₇ k7 _ hv => ?_))
  cases rd_prim.mp hv
  have kall : Kp (fun b => f.Mu b ∨ b = dx) (fun _ => False) s₁ s₇ := (kx.toW.trans (q3.1.mono (fun b h => .inl (.inl h)) fun _ h => h.elim)).trans ((k5'.toW.trans (k6.mono (fun b h => .inl (.inr h)) fun _ h => h.elim)).trans k7.toW)
  have k0' : K0 s s₇ := Kp.mono (W := fun b => f.Mu b ∨ b = dx) (G := fun _ => False) (op.k.toW.trans kall) (fun b h => .inr (get_none (h.elim (op.mu b) fun q => q ▸ Nat.le_trans sz gdx))) fun _ h => h.elim
  have nO : ∀ b, s₁.heap.objs.size ≤ b → ¬ O b := fun b hb q => Nat.lt_irrefl _ (Nat.lt_of_lt_of_le (g.bd b q) (Nat.le_trans sz hb))
  refine ⟨k0', rd_thing.mpr ?_⟩
  obtain ⟨o, hx, hc, hnc, hd⟩ := i6.inst
  have hdo := i6.dict o hx
  rcases hd with ⟨q, _⟩ | ⟨d', e1, e2, e3⟩
  · rw [q] at hdo; cases hdo
  · cases hdo.symm.trans e1
    obtain ⟨od, es, ep, f1, f2⟩ := e3
    exact ⟨x, dx, o, od, _, v0, rfl, nO x gx, i.ne.1, nO dx gdx, i.ne.2, k7.heap x o i.ne.1 (fun h => h) hx, k7.heap dx od i.ne.2 (fun h => h) f1, fun h' g1 g2 => ⟨o, g1, hc, hnc, .inr ⟨dx, hdo, e2, od, es, ep, g2, f2⟩⟩, if_pos rfl, hv0.k0 k0'⟩
end
section
variable {l : L} {cx : Cx} {f : Fm} {ρ : Ro} {A : Around} {s : Shared} {O : Addr → Prop}
/-- a tag that a thing may have -/
inductive TagV : AV → Bool → Prop
  | none : TagV .none false
  | str {u : Str} : TagV (.str u) true
theorem loadtag_ok {fI : Addr} {t : AV} {b : Bool} {v : Value} (C : ClsIs l.h fI) (B : Base l.h s.heap) (ht : TagV t b) (hv : Rd s.heap O (.thing t) v) : wpAny l.M A (getAttr v "tag" true) (Ends O s t) NoE s := C.at_ B fun nm q N bs sn sub col dd k0 k1 k2 k3 k5 mN hC hn _ c5 _ c7 _ => by
  obtain ⟨a, dx, o, od, mA, u, rfl, g1, g2, g3, g4, g5, g6, g7, g8, g9⟩ := rd_thing.mp hv
  have hB : typeLookup (.type "object") "tag" = pure none := by rw [typeLookup_type, builtinLookup_eq_fast]; kernel_rfl
  have hh : handedOut u = pure u := by
    cases ht with
    | none => rw [rd_none.mp g9]; rfl
    | str => obtain ⟨tk, rfl, _⟩ := rd_str.mp g9; rfl
  have I := g7 _ g5 g6
  obtain ⟨hp, g, d', tk, os⟩ := s
  exact load_attr hC hn c5 c7 hB I g8 hh ⟨K0.tick (s := ⟨hp, g, d', tk, os⟩), g9⟩
theorem ES_tag {fI : Addr} {x : Str} {p q : Pos} {t : AV} {b : Bool} (C : ClsIs l.h fI) (h : EV l cx ρ (.Name x p) (.thing t)) (ht : TagV t b) : EV l cx ρ (.Attribute (.Name x p) "tag" q) t := .mk fun f s a => by
  rw [PySem.arm_eval_Attribute, show attributeBase (.Name x p) "tag" f.env (eval (.Name x p) f.env) = eval (.Name x p) f.env from rfl]
  exact wpAny_bind (h.go a .refl fun v s₁ k _ r => wpAny_bind (wpAny_standAt (wpAny_bind (wpAny_holding (wpAny_mono (loadtag_ok C (a.base.k0 k) ht r) (fun u s₂ q2 => wpAny_bind (wpAny_letTemporaryGo (wpAny_pure (Ends.trans k q2)))) fun _ _ z => z)))))
theorem ES_isi {g x y : Str} {p q r u : Pos} {a : AV} {b : Bool} (h1 : EV l cx ρ (.Name g p) (.prim (.builtin "isinstance"))) (h2 : EV l cx ρ (.Name x q) a) (h3 : EV l cx ρ (.Name y r) (.prim (.type "str"))) (ht : TagV a b) :
    EV l cx ρ (.Call (.Name g p) [.Name x q, .Name y r] [] u) (.bool b) := .mk fun f s ac =>
  wpAny_Call_NameR (h1.go ac .refl fun v s₁ k _ r1 => by
    cases rd_prim.mp r1
    exact args_ok rfl (.cons rfl h2 (.cons rfl h3 .nil)) ac k (.inl ⟨_, rfl⟩) fun vs s₂ k2 _ rl => rl.twoE fun v w r2 r3 => by
      cases rd_prim.mp r3
      cases ht with
      | none => exact r2.noneE (IsiPair.NoneType_str ⟨k2.trans K0.tick, rd_bool.mpr rfl⟩)
      | str => exact r2.strE fun t _ => IsiPair.str_str ⟨k2, rd_bool.mpr rfl⟩)
theorem rd_slE {h : Heap} {lo hi : Option Int} {v : Value} {G : Prop} (r : Rd h O (.sl lo hi) v) (k : ∀ b (ql qh : Option (Int × Tok)), v = .ref b → h.get? b = some { cls := .type "slice", data := .fields #[partValue ql, partValue qh, .none] } → ql.map (·.1) = lo → qh.map (·.1) = hi → G) : G := by
  obtain ⟨b, l', u, rfl, _, _, g3, g4, g5⟩ := rd_sl.mp r
  have pt : ∀ {z : Option Int} {w : Value}, (match z with | some i => ∃ t, w = .int i t | none => w = .none) → ∃ q : Option (Int × Tok), w = partValue q ∧ q.map (·.1) = z := fun {z w} e => by
    cases z with
    | none => exact ⟨none, e, rfl⟩
    | some i => obtain ⟨t, e⟩ := e; exact ⟨some (i, t), e, rfl⟩
  obtain ⟨ql, rfl, e1⟩ := pt g4
  obtain ⟨qh, rfl, e2⟩ := pt g5
  exact k b ql qh rfl g3 e1 e2
theorem ES_sl {v i : Expr} {r : Pos} {u w : Str} {lo hi : Option Int} (hs : isSlice i = false) (h1 : EV l cx ρ v (.str u)) (h2 : EV l cx ρ i (.sl lo hi)) (hw : Txt.slice u lo hi = w) : EV l cx ρ (.Subscript v i r) (.str w) := .mk fun f s a => by
  subst hw
  refine subscript_any hs (h1.two h2 a .refl fun v1 v2 s₂ k r1 r2 => r1.strE fun t hz => rd_slE r2 fun b ql qh e g e1 e2 => ?_)
  subst e; subst e1; subst e2
  have hz' := Nat.le_trans (Txt.slice_le u (ql.map (·.1)) (qh.map (·.1))) hz
  exact ⟨"str", _, F.slot_str_getitem.lookup, typeIs_str _ u t, with_tk (wpAny_getItem_str_slice (l := ql) (u := qh) (st := none) ⟨_, g, rfl, rfl⟩ rfl (post_val_or_str ⟨hz', fun t' k' htk => Ends.trans k (.strT hz' htk)⟩))⟩
end
theorem mro_slice : mroOf (.type "slice") = pure [.type "slice", .type "object"] := by rw [mroOf_type]; kernel_rfl
theorem lookup_slice_new : typeLookup (.type "slice") "__new__" = pure (some (.builtin "slice.__new__")) := by rw [typeLookup_type, builtinLookup_eq_fast]; kernel_rfl
theorem slot_slice_init : Slot "slice" "__init__" "object.__init__" :=
  .of (owner := "object") (n := "__init__") (by rw [typeLookup_type, builtinLookup_eq_fast]; kernel_rfl) (by decide +kernel) (by decide +kernel) (by decide +kernel)
    (by first | exact .inl (by decide +kernel) | exact .inr (by decide +kernel)) (by rw [isSubtype_type]; kernel_rfl)
theorem called_slice : TypeCalled "slice" "slice.__new__" "object.__init__" :=
  ⟨by decide +kernel, by decide +kernel, ⟨_, _, mro_slice⟩, madeBy_type mro_slice lookup_slice_new (by decide +kernel), by decide +kernel, by rw [isSubtype_type]; kernel_rfl, slot_slice_init⟩
theorem typeCall_slice_2 (a b : Value) : checkTypeCall "slice" ⟨[a, b], []⟩ = pure () := by kernel_rfl
theorem newCall_slice_2 (a b : Value) : checkBuiltinCall "slice.__new__" ⟨[.type "slice", a, b], []⟩ = pure () := by kernel_rfl
theorem entry_slice_new : entryFor table "slice.__new__" = some Builtin.«slice.__new__» := entryFor_of_tree (by kernel_rfl)
theorem meets_slice (a b : Value) : Meets (Builtin.«slice.__new__» ⟨[.type "slice", a, b], []⟩) (fun _ R s => R (.ok (.ret (.ref s.heap.objs.size))) { s with heap := s.heap.push { cls := .type "slice", data := .fields #[a, b, .none] } }) :=
  .of_wp fun prog w A R s h => by
    obtain ⟨hp, g, d, tk, os⟩ := s
    have hsub : isSubtype (.type "slice") (.type "slice") = pure true := called_slice.sub
    wp_walk
    exact ⟨_, rfl, h⟩
section
variable {l : L}
theorem call_slice {A : Around} {s : Shared} {a b : Value} {Q : Value → Shared → Prop} (h : Q (.ref s.heap.objs.size) { s with heap := s.heap.push { cls := .type "slice", data := .fields #[a, b, .none] } }) : wpAny l.M A (call (.type "slice") [a, b]) Q NoE s :=
  callType_new called_slice (by decide) (typeCall_slice_2 _ _) (newCall_slice_2 _ _) (fun obj => PySem.F.args_object_init_3 obj _ _) entry_slice_new (meets_slice a b) ⟨⟨_, Heap.get?_push_size _ rfl, rfl⟩, h⟩
theorem slice_end {A O s a b lo hi} (g : Go l A O s) (h1 : match lo with | some i => ∃ t, a = .int i t | none => a = .none) (h2 : match hi with | some i => ∃ t, b = .int i t | none => b = .none) : Ends O s (.sl lo hi) (.ref s.heap.objs.size) { s with heap := s.heap.push { cls := .type "slice", data := .fields #[a, b, .none] } } :=
  ⟨.push1, rd_sl.mpr ⟨_, _, _, rfl, fun q => Nat.lt_irrefl _ (g.bd _ q), Nat.ne_of_gt (TA_lt g.base.tab), Heap.get?_push_size _ rfl, h1, h2⟩⟩
theorem fn_slice_lo {n : Int} : FnOk l (.type "slice") [.int n, .none] (.sl (some n) none) := fun A s O vs g hvs => hvs.twoE fun v w h1 h2 => h1.intE fun t => h2.noneE (call_slice (slice_end g ⟨_, rfl⟩ rfl))
theorem fn_slice_hi {n : Int} : FnOk l (.type "slice") [.none, .int n] (.sl none (some n)) := fun A s O vs g hvs => hvs.twoE fun v w h1 h2 => h1.noneE (h2.intE fun t => call_slice (slice_end g rfl ⟨_, rfl⟩))
end
section
open PySem.W.X
/-- a select: a generator function with captured names, as it stands -/
structure SelIs (h : Heap) (fa : Addr) (fd : FuncData) (body : List Stmt) (clo : List (Str × Addr)) : Prop where
  ta : fa ≠ TA
  obj : ∃ o, h.get? fa = some o ∧ o.data = .func fd
  code : ∃ c o vs t, fd.code = .ref c ∧ c ≠ TA ∧ h.get? c = some o ∧ o.data = .fields vs ∧ vs[1]? = some (.str fd.qualname t)
  body : fd.body = .stmts body
  clos : fd.closure = clo
  glob : fd.globals = mainGlobals
  bi : fd.builtins = builtinsNs
  scope : okScope fd.scope = true
  nocell : fd.scope.names.all (fun x => x.2 != .cell) = true
  par : fd.scope.names.lookup ("context" : Str) = some .local ∧ fd.scope.names.lookup ("result" : Str) = some .local
  free : ∀ n, (n, NameKind.free) ∈ fd.scope.names → (clo.lookup n).isSome = true
  bind : ∀ a b : Value, bindArgs fd ⟨[a, b], []⟩ = pure [(("context" : Str), a), ("result", b)]
  co : fd.scope.isCoroutine = false
  gen : fd.scope.isGenerator = true
theorem SelIs.k0 {s s' : Shared} {fa fd body clo} (h : SelIs s.heap fa fd body clo) (k : K0 s s') : SelIs s'.heap fa fd body clo := by
  obtain ⟨o, q1, q2⟩ := h.obj
  obtain ⟨c, oc, fs, t, q3, q4, q5, q6, q7⟩ := h.code
  exact { h with
    obj := ⟨o, k.heap fa o h.ta (fun h => h) q1, q2⟩
    code := ⟨c, oc, fs, t, q3, q4, k.heap c oc q4 (fun h => h) q5, q6, q7⟩ }
/-- a captured value -/
inductive CapV (O : Addr → Prop) (h : Heap) (clo : List (Str × Addr)) (n : Str) : Sl → Prop
  | mk {av c v} : clo.lookup n = some c → h.IsCell c (some v) → Rd h O av v → CapV O h clo n (.fz av)
/-- what a select has captured -/
structure Cap (N : Nat) (O : Addr → Prop) (h : Heap) (sc : Scope) (clo : List (Str × Addr)) (cr : Ro) : Prop where
  apart : ∀ n n' c, clo.lookup n = some c → clo.lookup n' = some c → n = n'
  cell : ∀ n c, clo.lookup n = some c → c ≠ TA ∧ N ≤ c ∧ ∃ v, h.IsCell c v
  val : ∀ n sl, cr.lookup n = some sl → sc.names.lookup n = some .free ∧ CapV (fun b => O b ∨ ∃ n, clo.lookup n = some b) h clo n sl
theorem Cap.k0 {N O sc clo cr} {s s' : Shared} (h : Cap N O s.heap sc clo cr) (k : K0 s s') : Cap N O s'.heap sc clo cr where
  apart := h.apart
  cell := fun n c e => let ⟨a, b, v, o, e1, e2⟩ := h.cell n c e; ⟨a, b, v, o, k.heap c o a (fun h => h) e1, e2⟩
  val := fun n sl e => ⟨(h.val n sl e).1, by
    cases (h.val n sl e).2 with
    | @mk av c v e1 e2 e3 => exact .mk e1 (e2.elim fun o z => ⟨o, k.heap c o (h.cell n c e1).1 (fun h => h) z.1, z.2⟩) (e3.k0 k)⟩
noncomputable abbrev callEnvF (fd : FuncData) (L a : Addr) : Env := newEnv fd.scope L fd.globals fd.closure (fd.qualname ++ ".<locals>.") (some a) fd.code none fd.builtins
/-- a select's parameters -/
noncomputable abbrev selRo (xs : List AV) (cr : Ro) : Ro := ("context", .fz .none) :: ("result", .fz (.list xs)) :: cr
inductive SelLook (xs : List AV) (cr : Ro) (n : Str) (sl : Sl) : Prop
  | ctx : n = "context" → sl = .fz .none → SelLook xs cr n sl
  | res : n = "result" → sl = .fz (.list xs) → SelLook xs cr n sl
  | cap : cr.lookup n = some sl → SelLook xs cr n sl
theorem sel_look {xs cr n sl} (h : (selRo xs cr).lookup n = some sl) : SelLook xs cr n sl := by
  rw [List.lookup_cons, List.lookup_cons] at h
  cases e1 : n == ("context" : Str) with
  | true => rw [e1] at h; exact .ctx (eq_of_beq e1) (Option.some.inj h).symm
  | false =>
    rw [e1] at h
    cases e2 : n == ("result" : Str) with
    | true => rw [e2] at h; exact .res (eq_of_beq e2) (Option.some.inj h).symm
    | false => rw [e2] at h; exact .cap h
section
variable {l : L} {A : Around} {s s₀ : Shared} {O : Addr → Prop}
noncomputable abbrev Wid (O : Addr → Prop) (clo : List (Str × Addr)) : Addr → Prop := fun b => O b ∨ ∃ n, clo.lookup n = some b
/-- a select's frame, in any state that has kept it -/
theorem frame_actF {N : Nat} {fd : FuncData} {fa : Addr} {body : List Stmt} {clo : List (Str × Addr)} {xs : List AV} {cr : Ro} {t : Shared} {h' : Heap} {O'' : Addr → Prop} {v w : Value} (F : SelIs s.heap fa fd body clo) (g : Go l A (Wid O clo) s) (C : Cap N O s.heap fd.scope clo cr)
    (hv : Rd s.heap (Wid O clo) .none v) (hw : Rd s.heap (Wid O clo) (.list xs) w) (hns : h'.Ns s.heap.objs.size (fun x => ([("context", v), ("result", w)] : List (Str × Value)).reverse.lookup x))
    (kL : ∀ o, h'.get? s.heap.objs.size = some o → t.heap.get? s.heap.objs.size = some o) (kO : ∀ b o, b ≠ TA → ¬ Wid O clo b → s.heap.get? b = some o → t.heap.get? b = some o) (kC : ∀ n c o, clo.lookup n = some c → s.heap.get? c = some o → t.heap.get? c = some o)
    (hB : Base l.h t.heap) (htk : 0 < t.toks) (o0 : ∀ b, Wid O clo b → O'' b) (o1 : O'' s.heap.objs.size) (o2 : ∀ b, O'' b → b < t.heap.objs.size) (o3 : ∀ b, O'' b → Wid O clo b ∨ s.heap.objs.size ≤ b)
    {A' : Around} (hh : A'.handled = none) (hdep : A'.depth + l.d < recursionLimit) (hu : A'.units + (100 + 20 * l.d) < cLine) :
    Act l (fnCx fd) ⟨A', callEnvF fd s.heap.objs.size fa, O'', fun b => b = s.heap.objs.size⟩ (selRo xs cr) t := by
  have hsc := F.scope
  unfold okScope at hsc
  rw [Bool.and_eq_true, List.all_eq_true] at hsc
  have nocell : ∀ n, (n, NameKind.cell) ∉ fd.scope.names := fun n h => absurd (List.all_eq_true.mp F.nocell _ h) (by show ¬ (NameKind.cell != NameKind.cell) = true; decide)
  have nsT : t.heap.Ns s.heap.objs.size _ := Heap.Ns.get hns kL
  have e0 : (callEnvF fd s.heap.objs.size fa).cells = clo := F.clos
  have up : ∀ {av v}, Rd s.heap (Wid O clo) av v → Rd t.heap O'' av v := fun r => r.move fun b o e1 e2 e3 =>
    ⟨kO b o e1 e2 e3, fun q => (o3 b q).elim e2 fun z => Nat.lt_irrefl _ (Nat.lt_of_lt_of_le (Heap.lt_size e3) z)⟩
  have cellT : ∀ {n c v}, clo.lookup n = some c → s.heap.IsCell c v → t.heap.IsCell c v := fun {n c v} h ⟨o, e, hd⟩ => ⟨o, kC n c o h e, hd⟩
  refine ⟨rfl, hh, hdep, hu, htk, hB, ⟨eq_of_beq hsc.1, F.glob, F.bi, ⟨_, nsT⟩, rfl, ?_, fun n c hn _ => (nocell n (mem_ownOf hn)).elim, fun n hn => (nocell n (mem_ownOf hn)).elim, ?_, ?_, fun b hb => hb ▸ o1, fun b hb => hb ▸ ⟨g.base.size, Nat.ne_of_gt (TA_lt g.base.tab)⟩, o2⟩, ⟨fun n sl hn => ?_, fun x y xs ys v _ hx _ _ _ => ?_⟩⟩
  · rw [e0]
    exact fun n c hc => let ⟨e2, _, v, e3⟩ := C.cell n c hc; ⟨o0 c (.inr ⟨n, hc⟩), e2, fun q => Nat.lt_irrefl _ (show s.heap.objs.size < s.heap.objs.size from (show c = s.heap.objs.size from q) ▸ g.bd c (.inr ⟨n, hc⟩)), v, cellT hc e3⟩
  · rw [e0]; exact fun n n' c hc hc' => C.apart n n' c hc hc'
  · rw [e0]
    exact fun n hn => hn.elim (fun hn => (nocell n (lookup_mem hn)).elim) fun hn => F.free n (lookup_mem hn)
  · cases sel_look hn with
    | ctx e1 e2 => subst e1; subst e2; exact ⟨v, .inl ⟨F.par.1, _, nsT, rfl⟩, up hv⟩
    | res e1 e2 => subst e1; subst e2; exact ⟨w, .inl ⟨F.par.2, _, nsT, rfl⟩, up hw⟩
    | cap h =>
      obtain ⟨g1, g2⟩ := C.val n sl h
      cases g2 with
      | @mk av c v q1 q2 q3 => exact ⟨v, .inr ⟨.inr g1, c, e0.symm ▸ q1, cellT q1 q2⟩, up q3⟩
  · cases sel_look hx with
    | ctx _ e => cases e
    | res _ e => cases e
    | cap h => cases (C.val x _ h).2
theorem gen_makeF {fa : Addr} {fd : FuncData} {body : List Stmt} {clo : List (Str × Addr)} {xs ys : List AV} {cr ρ' : Ro} {v w : Value} (F : SelIs s.heap fa fd body clo) (hlim : l.h.NoLimit) (hrun : Gn l (fnCx fd) (selRo xs cr) (execs body) ρ' ys)
    (g : Go l.up A (Wid O clo) s) (k0 : K0 s₀ s) (C : Cap s₀.heap.objs.size O s.heap fd.scope clo cr) (hv : Rd s.heap (Wid O clo) .none v) (hw : Rd s.heap (Wid O clo) (.list xs) w) :
    wpAny l.M A (call (.ref fa) [v, w]) (GM l.up O ys s₀) NoE s := by
  obtain ⟨o, hg, hd⟩ := F.obj
  obtain ⟨c, oc, fs, t, hc1, hc2, hc3, hc4, hc5⟩ := F.code
  have hT := TA_lt g.base.tab
  have hsc := F.scope
  unfold okScope at hsc
  refine wpAny_call (codeAny_call_generator g.dp hg hd F.co F.gen F.body ⟨c, oc, fs, t, hc1, hc3, hc4, hc5⟩ ?_)
  rw [F.bind]
  refine wpAny_pure (with_tk (wpAny_newFunctionEnv (fun x hx => by simpa using List.all_eq_true.mp F.nocell x hx) (fun x hx => ?_) (fun h' hns hsame htk => ?_) (eq_of_beq (Bool.and_eq_true_iff.mp hsc).1)))
  · rcases List.mem_cons.mp hx with rfl | hx
    · exact F.par.1
    · exact List.mem_singleton.mp hx ▸ F.par.2
  have hsz : h'.objs.size = s.heap.objs.size + 1 := by rw [hsame.1]; exact Heap.size_push ..
  have hkeep : ∀ b o, s.heap.get? b = some o → h'.get? b = some o := fun b o e => (hsame.2 b (Nat.ne_of_lt (Heap.lt_size e))).trans (Heap.get?_push_of_some _ e)
  have hLlt : s.heap.objs.size < h'.objs.size := by rw [hsz]; exact Nat.lt_succ_self _
  refine ⟨(lim_of hlim g.base).keeps hkeep, ?_⟩
  rw [show newEnv fd.scope s.heap.objs.size fd.globals fd.closure (fd.qualname ++ Str.ofString ".<locals>.") (some fa) fd.code none fd.builtins = callEnvF fd s.heap.objs.size fa from rfl]
  generalize s.toks + _ = tk at *
  generalize hobj : ({ cls := .type "generator", data := .fields #[.int s.gens.size 0, .str fd.name tk, .str fd.qualname (tk + 1)] } : Obj) = go
  have hsz2 : (h'.push go).objs.size = h'.objs.size + 1 := Heap.size_push ..
  have k1 : K0 s { s with gens := s.gens.push (.fresh (.func body (callEnvF fd s.heap.objs.size fa))), toks := tk + 1 + 1, heap := h'.push go } :=
    ⟨fun b o _ _ e => Heap.get?_push_of_some _ (hkeep b o e), by show _ ≤ (h'.push go).objs.size; rw [hsz2]; exact Nat.le_succ_of_le (Nat.le_of_lt hLlt), fun ⟨u, e⟩ => ⟨u, Heap.get?_push_of_some _ (hkeep _ _ e)⟩, by show _ ≤ (s.gens.push _).size; rw [Array.size_push]; exact Nat.le_succ _,
      fun i y _ e => by
        obtain ⟨e1, e2⟩ := Array.getElem?_eq_some_iff.mp e
        exact (Array.getElem?_push_lt e1).trans (congrArg some e2), fun h => AllBare.push h rfl, rfl, fun _ => Nat.succ_pos _, CodesOk.all fun _ _ e => Heap.get?_push_of_some _ (hkeep _ _ e)⟩
  have hOl : ∀ b, (Wid O clo b ∨ b = s.heap.objs.size) → b < h'.objs.size := fun b h => h.elim (fun z => Nat.lt_trans (g.bd b z) hLlt) fun z => z ▸ hLlt
  refine ⟨h'.objs.size, s.gens.size, fun b => (∃ n, clo.lookup n = some b) ∨ b = s.heap.objs.size, fun b => Wid O clo b ∨ b = s.heap.objs.size, k0.trans k1, Nat.le_trans k0.size (Nat.le_of_lt hLlt), k0.gsize, fun b h => h.elim (fun ⟨n, q⟩ => (C.cell n b q).2.1) fun q => q ▸ k0.size, fun b h => .inl (.inl h),
    fun b h => h.elim (fun q => q.imp id fun ⟨n, q⟩ => (C.cell n b q).2.1) fun q => .inr (q ▸ k0.size), fun Ac q1 q2 q3 => ?_⟩
  refine ⟨⟨go, _, _, Heap.get?_push_size _ (by rw [← hobj]; rfl), by rw [← hobj], by rw [← hobj], by rw [← hobj]⟩, Nat.ne_of_gt (Nat.lt_trans hT hLlt), fun q => Nat.lt_irrefl _ (hOl _ q), fun b h => h.imp .inr id, fun b h => hsz2 ▸ Nat.lt_succ_of_lt (hOl b h), .fresh (.func body (callEnvF fd s.heap.objs.size fa)), Array.getElem?_push_size, fun s'' Fu => ?_⟩
  have fsz : h'.objs.size < s''.heap.objs.size := Nat.lt_of_lt_of_le (Nat.lt_succ_self _) (Nat.le_trans (Nat.le_of_eq hsz2.symm) Fu.size)
  exact ⟨_, _, _, .inl ⟨rfl, rfl, rfl, rfl⟩, gen_start (l := l) q1 q2 q3 hrun (fun h1 h2 h3 => frame_actF (l := l) (h' := h') (O'' := Since (fun b => Wid O clo b ∨ b = s.heap.objs.size) { s with gens := s.gens.push (.fresh (.func body (callEnvF fd s.heap.objs.size fa))), toks := tk + 1 + 1, heap := h'.push go } s'') F g.of_up C hv hw hns
      (fun o e => Fu.keep _ o (Nat.ne_of_gt hT) (.inl (.inr rfl)) (Heap.get?_push_of_some _ e))
      (fun b o ht hOb e => Fu.keep b o ht (.inr fun z => z.elim hOb fun y => Nat.ne_of_lt (Heap.lt_size e) y) (Heap.get?_push_of_some _ (hkeep b o e)))
      (fun n c o hc e => Fu.keep c o (C.cell n c hc).1 (.inl (.inl ⟨n, hc⟩)) (Heap.get?_push_of_some _ (hkeep c o e)))
      Fu.base Fu.tk (fun b h => .inl (.inl h)) (.inl (.inr rfl)) (fun b h => h.elim (fun z => Nat.lt_trans (hOl b z) fsz) fun z => z.2) (fun b h => h.elim (fun z => z.imp id fun z => Nat.le_of_eq z.symm) fun z => .inr (Nat.le_trans (Nat.le_of_lt hLlt) (Nat.le_trans (Nat.le_trans (Nat.le_succ _) (Nat.le_of_eq hsz2.symm)) z.1))) h1 h2 h3)
    (fun b h => .inl (h.imp .inr id)) (fun b h => .inr h) fun n c hc => .inl ⟨n, F.clos ▸ hc⟩⟩
end
end
theorem codeAmong_app {pos pos' : Pos} {c cv : Value} {l : List Value} (h : TriplesOk l) (e : codeAmong pos' (l ++ [rawInt pos.line, rawInt pos.col, c]) = some cv) : codeAmong pos' l = some cv ∨ cv = c := by
  fun_induction TriplesOk l with
  | case1 =>
    right
    simp only [List.nil_append, rawInt, codeAmong] at e
    split at e
    · cases e; rfl
    · cases e
  | case2 a t b u x rest ih =>
    simp only [List.cons_append, codeAmong] at e ⊢
    split at e
    · rename_i q
      left; rw [if_pos q]; exact e
    · rename_i q
      rw [if_neg q]
      exact ih h e
  | case3 l h1 h2 => exact h.elim
/-- what a def in a body needs of the top -/
structure DefHead (h₁ : Heap) (c : Addr) : Prop where
  top : ∃ mg, h₁.Ns mainGlobals mg ∧ h₁.BuiltinsAt mg TA
  hd : CodeHd h₁ c TA
/-- a select's def -/
structure SelDef (params : Arguments) (body : List Stmt) (sc : Scope) : Prop where
  d0 : params.defaults = []
  k0 : params.kw_defaults = []
  ann : ∀ env, annTrees params none env = []
  scope : okScope sc = true
  nocell : sc.names.all (fun x => x.2 != .cell) = true
  par : sc.names.lookup ("context" : Str) = some .local ∧ sc.names.lookup ("result" : Str) = some .local
  bind : ∀ fd : FuncData, fd.params = params → fd.defaults = .none → fd.kwdefaults = .none → ∀ a b : Value, bindArgs fd ⟨[a, b], []⟩ = pure [(("context" : Str), a), ("result", b)]
  co : sc.isCoroutine = false
  gen : sc.isGenerator = true
section
variable {l : L} {cx : Cx} {f : Fm} {ρ ρ' ρ1 : Ro} {A : Around} {s : Shared} {O : Addr → Prop}
/-- a def's end -/
noncomputable def Def (l : L) (cx : Cx) (f : Fm) (ρ : Ro) (s : Shared) (name : Str) (body : List Stmt) (sc : Scope) (clos : List (Str × Addr)) (fl : Flow) (s' : Shared) : Prop :=
  fl = .next ∧ ∃ a fd, fd.scope = sc ∧ s.heap.objs.size ≤ a ∧ Stored l cx f (put ρ name (.fz (.prim (.ref a)))) s s' ∧ SelIs s'.heap a fd body clos
theorem def_ok {c : Addr} {name : Str} {params : Arguments} {body : List Stmt} {sc : Scope} {pos : Pos} {clos : List (Str × Addr)} (D : DefHead l.h c) (SD : SelDef params body sc) (a : Act l cx f ρ s) (hcode : f.env.code = .ref c) (hcl : closureFor sc f.env = pure clos)
    (hq : qualnameIn f.env name name = selQ) (hn : canStore cx name = true) (hfr : ∀ n, (n, NameKind.free) ∈ sc.names → (clos.lookup n).isSome = true) :
    wpAny l.M f.A (exec (.FunctionDef name params body [] none [] sc none name pos) f.env) (Def l cx f ρ s name body sc clos) NoE s := by
  obtain ⟨mg, t1, bm, ob, b1, b2, b3, b4, b5, b6, b7, b8⟩ := D.top
  obtain ⟨vs, v1, v2, v3⟩ := a.base.codes
  have hT := TA_lt a.base.tab
  have hg := ns_keep a.base (show mainGlobals ≠ TA by decide) t1
  have hbi : s.heap.BuiltinsAt mg TA := ⟨bm, ob, b1, b2, b3, b4, a.base.keep _ _ b4 b5, b6, b7, b8⟩
  have hC : CodeHd s.heap c TA := by
    obtain ⟨o, vs', file, tf, flags, tg, inF, text, tt, e, r1, r2, r3, r4, r5, r6, r7, r8, r9⟩ := D.hd
    exact ⟨o, vs', file, tf, flags, tg, inF, text, tt, a.base.keep _ _ r9 e, r1, r2, r3, r4, r5, r6, r7, r8, r9⟩
  have fin : ∀ (b : Addr) (code ctv doc pm : Value) (s₁ : Shared), K0 s s₁ → s.heap.objs.size ≤ b → (∃ o, s₁.heap.get? b = some o ∧ o.data = .func (fnX name selQ params body sc clos .none .none doc pm none code ctv)) → CodeAt s₁.heap code →
      wpAny l.M f.A (storeName f.env name (.ref b)) (fun _ s' => Def l cx f ρ s name body sc clos .next s') NoE s₁ := fun b code ctv doc pm s₁ k hb hfo hfc =>
    bindF_ok (x := .prim (.ref b)) (a.k0 k) hn (rd_prim.mpr rfl) fun s' q => by
      have hbT : b ≠ TA := Nat.ne_of_gt (Nat.lt_of_lt_of_le hT hb)
      obtain ⟨o, e1, e2⟩ := hfo
      obtain ⟨c2, oc, fs, t, q1, q2, q3, q4, q5⟩ := q.1.codes.one _ hfc
      exact ⟨rfl, b, fnX name selQ params body sc clos .none .none doc pm none code ctv, rfl, hb, q.pre k, hbT, ⟨o, q.1.heap b o hbT (fun z => Nat.lt_irrefl _ (Nat.lt_of_lt_of_le (a.en.bound b (a.en.muO b z)) hb)) e1, e2⟩, ⟨c2, oc, fs, t, q1, q2, q3, q4, q5⟩, rfl, rfl, rfl, rfl, SD.scope, SD.nocell, SD.par, hfr, SD.bind _ rfl rfl rfl, SD.co, SD.gen⟩
  refine nestDef_K SD.d0 SD.k0 (SD.ann _) ?_
  rw [hq]
  cases hf : codeAmong pos vs.toList with
  | some cv =>
    refine with_tk (makeFunction_hit hcl a.en.glob hg hcode hC v1 v2 hf hbi fun ctv doc h' tk hk hsz htk => ?_)
    have k1 : K0 s { s with heap := h'.push { cls := .type "function", data := .func (fnX name selQ params body sc clos .none .none doc ((mg "__name__").getD .none) none cv ctv) }, toks := tk } :=
      K0.keep (fun b o e => Heap.get?_push_of_some _ (hk b o e)) (by rw [Heap.size_push]; exact Nat.le_succ_of_le hsz) htk
    exact fin h'.objs.size _ ctv doc _ _ k1 hsz ⟨_, Heap.get?_push_size _ rfl, rfl⟩ (k1.codes.one _ (v3 pos cv hf))
  | none =>
    refine with_tk (makeFunction_K hcl a.en.glob hg hcode hC v1 v2 hf (show mainGlobals ≠ TA by decide) hbi fun c' ctv doc h' tk hx hge hlt hrec htb htk => ?_)
    obtain ⟨c2, oc, fs, t, e2, hoc, hd, hv⟩ := hrec
    cases e2
    have hsz : s.heap.objs.size ≤ h'.objs.size := Nat.le_of_lt (Nat.lt_of_le_of_lt hge hlt)
    generalize hfo : fnMade name selQ params body sc clos doc ((mg "__name__").getD .none) c' ctv = fo
    have one : ∀ cv, CodeAt s.heap cv → CodeAt (h'.push fo) cv := fun cv ⟨c, o, fs, t, e1, e2, e3, e4, e5⟩ => ⟨c, o, fs, t, e1, e2, Heap.get?_push_of_some _ (hx c o e2 e3), e4, e5⟩
    have hcA : CodeAt (h'.push fo) (.ref c') := ⟨c', oc, fs, t, rfl, Nat.ne_of_gt (Nat.lt_of_lt_of_le hT hge), Heap.get?_push_of_some _ hoc, hd, hv⟩
    have k1 : K0 s { s with heap := h'.push fo, toks := tk } := by
      refine ⟨fun b o hb _ e => Heap.get?_push_of_some _ (hx b o hb e), by show _ ≤ (h'.push fo).objs.size; rw [Heap.size_push]; exact Nat.le_succ_of_le hsz, fun _ => ⟨_, Heap.get?_push_of_some _ htb⟩, Nat.le_refl _, fun _ _ _ e => e, fun e => e, rfl, htk, one, fun _ => ⟨_, Heap.get?_push_of_some _ htb, ?_, fun pos' cv e => ?_⟩⟩
      · rw [Array.toList_append]
        exact TriplesOk_snoc _ _ _ _ v2
      · rw [Array.toList_append] at e
        exact (codeAmong_app v2 e).elim (fun q => one _ (v3 pos' cv q)) fun q => q ▸ hcA
    exact fin h'.objs.size (.ref c') ctv doc _ _ k1 hsz ⟨fo, Heap.get?_push_size _ (by rw [← hfo]; rfl), by rw [← hfo]⟩ hcA
/-- a run up to a def, the last statement of all -/
inductive DR (l : L) (cx : Cx) (fs : Stmt) (ρ' : Ro) : Ro → List Stmt → Prop
  | here : DR l cx fs ρ' ρ' [fs]
  | stm {ρ ρ1 : Ro} {st rest} : SS l cx ρ st (ρ1, .next) → DR l cx fs ρ' ρ1 rest → DR l cx fs ρ' ρ (st :: rest)
  | ifc {ρ : Ro} {t b e p c c'} : TV l cx ρ t c → c = c' → DR l cx fs ρ' ρ (pick c' b e) → DR l cx fs ρ' ρ [.If t b e p]
theorem dr_ok {R : Shared → Prop} {fs : Stmt} {b : List Stmt} {s₀ : Shared} {f₀ : Fm} (hO₀ : ∀ b, f₀.O b → b < s₀.heap.objs.size) (h : DR l cx fs ρ' ρ b)
    (hR : ∀ O' Mu' s', StepR f₀.O f₀.Mu O' Mu' s₀ s' → Act l cx (f₀.up O' Mu') ρ' s' → wpAny l.M f₀.A (exec fs f₀.env) (fun fl s'' => fl = .next ∧ R s'') NoE s') :
    ∀ O Mu s, StepR f₀.O f₀.Mu O Mu s₀ s → Act l cx (f₀.up O Mu) ρ s → wpAny l.M f₀.A (execs b f₀.env) (fun fl s'' => fl = .next ∧ R s'') NoE s := by
  have nil1 : ∀ {m : Sem Flow} {s : Shared}, wpAny l.M f₀.A m (fun fl s'' => fl = .next ∧ R s'') NoE s → wpAny l.M f₀.A m (fun c s' => match c with | .next => wpAny l.M f₀.A (execs [] f₀.env) (fun fl s'' => fl = .next ∧ R s'') NoE s' | c => (c = .next ∧ R s')) NoE s := fun hm => wpAny_mono hm (fun fl s' q => by
    obtain ⟨rfl, q⟩ := q
    exact wpAny_execs_nil ⟨rfl, q⟩) fun _ _ z => z
  induction h with
  | here => exact fun O Mu s st a => wpAny_execs_cons (nil1 (hR O Mu s st a))
  | stm h1 _ ih => exact fun O Mu s st a => wpAny_execs_cons (wpAny_mono (h1.ok (f₀.up O Mu) s a) (fun fl s₁ q => by
      obtain ⟨O', Mu', st', a', hf⟩ := q
      cases hf
      exact ih O' Mu' s₁ (st.trans st' hO₀) a') fun _ _ z => z)
  | @ifc _ _ _ _ _ c c' ht hc _ ih => exact fun O Mu s st a => wpAny_execs_cons (nil1 (wpAny_If (ht.go (f := f₀.up O Mu) a .refl fun s₁ k _ => by
      subst hc
      have := ih O Mu s₁ (st.trans (.of k.toW) hO₀) (a.k0 k)
      cases c <;> exact this)))
/-- a select as _prepare_tag leaves it -/
inductive Made (N : Nat) (O : Addr → Prop) (h : Heap) (body : List Stmt) (sc : Scope) (cr : Ro) : Value → Prop
  | mk {a fd clo} : fd.scope = sc → SelIs h a fd body clo → Cap N O h sc clo cr → Made N O h body sc cr (.ref a)
theorem cellsFrom_ge {n : Str} {c : Addr} : ∀ {l : List (Str × NameKind)} {k : Nat} {acc : List (Str × Addr)}, (cellsFrom k l acc).lookup n = some c → acc.lookup n = some c ∨ k ≤ c
  | [], k, acc, h => .inl h
  | (m, kd) :: r, k, acc, h => by
    rw [cellsFrom] at h
    split at h
    · rcases cellsFrom_ge h with q | q
      · rw [List.lookup_cons] at q
        split at q
        · cases q; exact .inr (Nat.le_refl _)
        · exact .inl q
      · exact .inr (Nat.le_of_succ_le q)
    · exact cellsFrom_ge h
theorem prep_ok {fa c : Addr} {fd : FuncData} {s0 : Stmt} {t : Expr} {bt be : List Stmt} {ip rp rpos pos : Pos} {x : Str} {cr : Ro} {params : Arguments} {body2 : List Stmt} {sc : Scope} (D : DefHead l.h c) (SD : SelDef params body2 sc) (hlim : l.h.NoLimit)
    (F : FnIs l.h fa fd [s0, .If t bt be ip, .Return (some (.Name "select" rp)) rpos] ["tag"] false) (hfc : fd.code = .ref c) (hfq : fd.qualname = ("_prepare_tag" : Str)) (hsl : kOf (fnCx fd) "select" = some .local)
    (r0 : SS l (fnCx fd) [("tag", .fz (.str x))] s0 (ρ1, .next)) (rt : TV l (fnCx fd) ρ1 t false) (r1 : DR l (fnCx fd) (.FunctionDef "select" params body2 [] none [] sc none "select" pos) ρ' ρ1 be)
    (g5 : ∀ n, (n, NameKind.free) ∈ sc.names → (n, NameKind.cell) ∈ fd.scope.names) (hcr : ∀ n sl, cr.lookup n = some sl → n ≠ ("select" : Str) ∧ ρ'.lookup n = some sl ∧ (∃ av, sl = .fz av) ∧ sc.names.lookup n = some .free)
    (g : Go l.up A O s) {v0 : Value} (hv : Rd s.heap O (.str x) v0) : wpAny l.M A (call (.ref fa) [v0]) (fun v s' => K0 s s' ∧ Made s.heap.objs.size O s'.heap body2 sc cr v) NoE s := by
  refine fn_enter (l := l) (as := [.str x]) F hlim rfl g (.single hv) fun f s₁ op => ?_
  have a := op.act
  have ecells : f.env.cells = cellsFrom (s.heap.objs.size + 1) fd.scope.names [] := by rw [op.env]; rfl
  have hq : qualnameIn f.env "select" "select" = selQ := by
    unfold qualnameIn
    rw [show f.env.kindOf "select" = some .local from (kind_of a _).trans hsl, show f.env.qual = fd.qualname ++ ".<locals>." by rw [op.env]; rfl, hfq]
    decide
  have hhas : ∀ x ∈ sc.names, x.2 = .free → (f.env.cells.lookup x.1).isSome = true := fun x hx e => by rw [ecells]; exact cellsFrom_has (.inl (g5 x.1 (e ▸ hx)))
  have hcl := closureFor_is (env := f.env) hhas
  have hclo : ∀ n, (n, NameKind.free) ∈ sc.names → ((clOf f.env sc.names []).lookup n).isSome = true := fun n hn => clOf_has (.inl hn)
  have hlook : ∀ n c, (clOf f.env sc.names []).lookup n = some c → f.env.cells.lookup n = some c := fun n c h => ((clOf_lookup hhas h).resolve_left fun q => nomatch q).2
  generalize clOf f.env sc.names [] = clo at *
  have hcellge : ∀ n c, f.env.cells.lookup n = some c → s.heap.objs.size ≤ c := fun n c h => by
    rw [ecells] at h
    exact (cellsFrom_ge h).elim (fun q => nomatch q) Nat.le_of_succ_le
  have hsel : canStore (fnCx fd) "select" = true := by unfold canStore; rw [hsl]; rfl
  have hkl : kLoc (fnCx fd) "select" = true := by unfold kLoc; rw [hsl]; rfl
  refine wpAny_execs_cons (wpAny_mono (r0.ok f s₁ a) (fun fl s₂ q2 => ?_) fun _ _ z => z)
  obtain ⟨O₂, Mu₂, st2, a2, hf2⟩ := q2
  cases hf2
  refine wpAny_execs_cons (wpAny_If (rt.go (f := f.up O₂ Mu₂) a2 .refl fun s₃ k3 _ => ?_))
  refine wpAny_mono (dr_ok (R := fun s' => ∃ b fd2, ∃ O' Mu' : Addr → Prop, fd2.scope = sc ∧ StepR f.O f.Mu O' Mu' s₁ s' ∧ Act l (fnCx fd) (f.up O' Mu') (put ρ' "select" (.fz (.prim (.ref b)))) s' ∧ SelIs s'.heap b fd2 body2 clo) a.en.bound r1 (fun O' Mu' s' st' a' =>
    wpAny_mono (def_ok (f := f.up O' Mu') D SD a' (by rw [op.env]; exact hfc) hcl hq hsel hclo) (fun fl s'' q => by
      obtain ⟨rfl, b, fd2, e1, e2, e3, e4⟩ := q
      exact ⟨rfl, b, fd2, O', Mu', e1, st'.trans (.of e3.1) a.en.bound, e3.2, e4⟩) fun _ _ z => z) O₂ Mu₂ s₃ (st2.trans (.of k3.toW) a.en.bound) (a2.k0 k3)) (fun fl s₄ q4 => ?_) fun _ _ z => z
  obtain ⟨rfl, b, fd2, O', Mu', e1, st, a4, e3⟩ := q4
  refine wpAny_execs_cons (wpAny_Return_some ((EE_loc hkl (by rw [lookup_put, if_pos rfl])).go (f := f.up O' Mu') a4 .refl fun v s₅ k5 _ hv5 => ?_))
  cases rd_prim.mp hv5
  have a5 := a4.k0 k5
  refine ⟨op.k0 (st.k.trans k5.toW), .mk e1 (e3.k0 k5) ⟨fun n n' c h h' => a5.en.apart n n' c (hlook n c h) (hlook n' c h'), fun n c h => let ⟨_, q2, _, q4⟩ := a5.en.cells n c (hlook n c h); ⟨q2, hcellge n c (hlook n c h), q4⟩, fun n sl h => ?_⟩⟩
  obtain ⟨h1, h2, ⟨av, rfl⟩, h4⟩ := hcr n sl h
  obtain ⟨v, hH, hr⟩ := a5.fr.at_ n (.fz av) (by rw [lookup_put, if_neg h1]; exact h2)
  have hmem := lookup_mem h4
  have hk : f.env.kindOf n = some .cell := by
    rw [kind_of a]
    have hsc := F.scope
    unfold okScope at hsc
    rw [Bool.and_eq_true, List.all_eq_true] at hsc
    exact eq_of_beq (hsc.2 (n, .cell) (g5 n hmem))
  rcases hH with ⟨hl, _⟩ | ⟨_, c, hc, hi⟩
  · cases hk.symm.trans hl
  · obtain ⟨c', hc'⟩ := Option.isSome_iff_exists.mp (hclo n hmem)
    cases hc.symm.trans (hlook n c' hc')
    exact ⟨h4, .mk hc' hi (hr.up fun b hb => hb.elim (fun hb => st.st b (op.o b hb) fun q => Nat.lt_irrefl _ (Nat.lt_of_lt_of_le (g.bd b hb) (op.mu b q))) fun ⟨m, hm⟩ => (a5.en.cells m b (hlook m b hm)).1)⟩
end
/-- what a select gives, of a tag and things -/
inductive SLm (l : L) (x : Str) (xs ys : List AV) : Prop
  | mk {fa body sc cr ρ'} : GlobIs l.h "_prepare_tag" (.ref fa) → Callee l.h (.ref fa) → Gn l ⟨sc, ownOf sc⟩ (selRo xs cr) (execs body) ρ' ys →
    (∀ A s O v0, Go l.up A O s → Rd s.heap O (.str x) v0 → wpAny l.M A (call (.ref fa) [v0]) (fun v s' => K0 s s' ∧ Made s.heap.objs.size O s'.heap body sc cr v) NoE s) → SLm l x xs ys
theorem EE_sel {l : L} {cx : Cx} {ρ : Ro} {lp fp p1 p2 p3 te ne xe x xs ys} (T : TopIs l.h) (hg : (kGlob cx "list" && kGlob cx "_prepare_tag" && !isStar te && !isStar ne && !isStar xe) = true) (h1 : EV l.up cx ρ te (.str x)) (h2 : EV l.up cx ρ ne .none) (h3 : EV l.up cx ρ xe (.list xs)) (hs : SLm l x xs ys) (hz : ys.length ≤ 1000000) :
    EV l.up cx ρ (.Call (.Name "list" lp) [.Call (.Call (.Name "_prepare_tag" fp) [te] [] p1) [ne, xe] [] p2] [] p3) (.list ys) := .mk fun f s ac => by
  simp only [Bool.and_eq_true, Bool.not_eq_true'] at hg
  obtain ⟨⟨⟨⟨kl, kf⟩, s1⟩, s2⟩, s3⟩ := hg
  obtain ⟨hgl, hca, hrun, hprep⟩ := hs
  refine wpAny_Call_NameR (glob_ok ac kl T.list (PySem.callWith_type rfl (Calls.evalArgs_plain (Calls.spliced_cons ?_))))
  show wpAny l.up.M f.A (do callWith p2 (← eval (.Call (.Name "_prepare_tag" fp) [te] [] p1) f.env) [] (backTo p2 (starEach [ne, xe] f.env)) (backToKw p2 (keywordEach [] f.env))) _ _ _
  refine wpAny_bind (wpAny_Call_NameR (glob_ok ac kf hgl (args_ok rfl (.cons s1 h1 .nil) ac .refl hca fun vs s₁ k1 _ rl => rl.oneE fun v0 hv0 => ?_)))
  refine wpAny_mono (hprep f.A s₁ f.O v0 (ac.gk k1) hv0) (fun v s₂ q2 => ?_) fun _ _ z => z
  obtain ⟨k2, q2⟩ := q2
  cases q2 with
  | @mk b fd clo hsc SI C =>
    subst hsc
    have a2 := (ac.k0 k1).addO (W := fun b => ∃ n, clo.lookup n = some b) k2 fun b ⟨n, h⟩ => let ⟨_, q1, v, oc, q2, _⟩ := C.cell n b h; ⟨q1, Heap.lt_size q2⟩
    obtain ⟨of, of1, of2⟩ := SI.obj
    have he : EVs l.up cx ρ [ne, xe] [.none, .list xs] := .cons s2 h2 (.cons s3 h3 .nil)
    have hsp := fun Q' => he.go (Q := Q') (f := f.up (Wid f.O clo) f.Mu) (pos := p2) a2 .refl
    show wpAny l.up.M f.A (callWith p2 (.ref b) [] (backTo p2 (starEach [ne, xe] f.env)) []) _ _ _
    rw [star_trees s2] at hsp ⊢
    refine Calls.callWith_function (o := of) (fd := fd) (Calls.evalArgs_plain (hsp _ fun vs s₃ k3 _ rl => ?_))
    refine ⟨⟨k3.heap b of SI.ta (fun h => h) of1, of2⟩, rl.twoE fun v w hv hw => ?_⟩
    exact wpAny_mono (gen_makeF (l := l) (s₀ := s₁) (O := f.O) (SI.k0 k3) T.lim hrun (a2.gk k3) (k2.trans k3) (C.k0 k3) hv hw) (fun v s₄ q4 => Calls.spliced_nil (list_GM (l := l.up) T ac (q4.pre k1) hz)) fun _ _ z => z
theorem allFz_put {ρ : Ro} {x : Str} {a : AV} (h : allFz ρ = true) : allFz (put ρ x (.fz a)) = true := by
  induction ρ with
  | nil => rfl
  | cons p r ih =>
    have h := Bool.and_eq_true_iff.mp (show (isFz p.2 && allFz r) = true from h)
    unfold put
    cases p.1 == x with
    | true => exact h.2
    | false => exact Bool.and_eq_true_iff.mpr ⟨h.1, ih h.2⟩
/-- plain values, and names that a run leaves alone -/
noncomputable def Hld (ρ lo : Ro) : Prop := allFz ρ = true ∧ ∀ n sl, lo.lookup n = some sl → ρ.lookup n = some sl
theorem Hld.put {ρ lo : Ro} {x : Str} {a : AV} (h : Hld ρ lo) (hx : lo.lookup x = none) : Hld (put ρ x (.fz a)) lo :=
  ⟨allFz_put h.1, fun n sl e => (lookup_put ..).trans ((if_neg fun q => by rw [q, hx] at e; cases e).trans (h.2 n sl e))⟩
section
variable {l : L} {cx : Cx} {ρ lo : Ro}
theorem sel_loop {hit : AV → Bool} {ok : AV → Prop} {body : List Stmt} {p : Pos} (hc : canStore cx "elem" = true) (ht : ∀ ρ t, Hld ρ lo → ok t → ∃ ρ', Gn l cx (put ρ "elem" (.fz (.thing t))) (execs body) ρ' (if hit t then [.thing t] else []) ∧ Hld ρ' lo) :
    ∀ (ts : List AV) (ρ : Ro), Hld ρ lo → (∀ t ∈ ts, ok t) → ∃ ρ', GnFor l cx body (.Name "elem" p) ρ (ts.map .thing) ρ' ((ts.filter hit).map .thing)
  | [], ρ, h, _ => ⟨ρ, .nil⟩
  | t :: ts, ρ, h, ho => by
    obtain ⟨ρ1, e1, h1⟩ := ht ρ t h (ho t (.head _))
    obtain ⟨ρ2, e2⟩ := sel_loop hc ht ts ρ1 h1 fun u hu => ho u (.tail _ hu)
    refine ⟨ρ2, ?_⟩
    have := GnFor.cons (.name hc rfl) e1 e2
    rw [List.filter_cons]
    revert this
    cases hit t <;> exact fun h => h
/-- a select over things -/
theorem sel_run {fI : Addr} {cond : Expr} {q1 q2 q3 p1 p2 p3 p4 p5 p6 p7 p8 : Pos} {hit : AV → Bool} {ok : AV → Prop} {ts : List AV} (C : ClsIs l.h fI) (hlo : allFz lo = true ∧ lo.lookup ("result" : Str) = none ∧ lo.lookup ("context" : Str) = none ∧ lo.lookup ("elem" : Str) = none ∧ lo.lookup ("el_tag" : Str) = none)
    (k0 : kLoc cx "result" = true) (k1 : kLoc cx "elem" = true) (k2 : canStore cx "elem" = true) (k3 : canStore cx "el_tag" = true) (hco : cx.sc.isCoroutine = false)
    (hok : ∀ t, ok t → (∃ b, TagV t b) ∧ ∀ ρ', Hld ρ' lo → ρ'.lookup ("el_tag" : Str) = some (.fz t) → TV l cx ρ' cond (hit t)) (hts : ∀ t ∈ ts, ok t) :
    ∃ ρ', Gn l cx (selRo (ts.map .thing) lo) (execs [.For (.Name "elem" q1) (.Name "result" q2) [.Assign [.Name "el_tag" p1] (.Attribute (.Name "elem" p2) "tag" p3) p4, .If cond [.Expr (.Yield (some (.Name "elem" p5)) p6) p7] [] p8] [] q3]) ρ' ((ts.filter hit).map .thing) := by
  obtain ⟨l0, l1, l2, l3, l4⟩ := hlo
  have hl : Hld (selRo (ts.map .thing) lo) lo := ⟨l0, fun n sl e => by
    rw [List.lookup_cons, List.lookup_cons]
    cases e1 : n == ("context" : Str) with
    | true => rw [eq_of_beq e1, l2] at e; cases e
    | false =>
      cases e2 : n == ("result" : Str) with
      | true => rw [eq_of_beq e2, l1] at e; cases e
      | false => exact e⟩
  obtain ⟨ρ', h⟩ := sel_loop (l := l) (cx := cx) (lo := lo) (hit := hit) (ok := ok) (body := [.Assign [.Name "el_tag" p1] (.Attribute (.Name "elem" p2) "tag" p3) p4, .If cond [.Expr (.Yield (some (.Name "elem" p5)) p6) p7] [] p8]) (p := q1) k2 (fun ρ t h ho => by
    obtain ⟨⟨b, hb⟩, hc⟩ := hok t ho
    have h1 := h.put (a := .thing t) l3
    have h2 := h1.put (a := t) l4
    have e1 : (put ρ "elem" (.fz (.thing t))).lookup ("elem" : Str) = some (.fz (.thing t)) := by rw [lookup_put, if_pos rfl]
    have e3 : (put (put ρ "elem" (.fz (.thing t))) "el_tag" (.fz t)).lookup ("elem" : Str) = some (.fz (.thing t)) := by rw [lookup_put, if_neg (by decide)]; exact e1
    have ga := gn_asg (np := p1) (pos := p4) (Bool.and_eq_true_iff.mpr ⟨rfl, k3⟩) (ES_tag (q := p3) C (EE_loc (p := p2) k1 e1) hb) rfl
    have gt := hc _ h2 (by rw [lookup_put, if_pos rfl])
    have gb : Gn l cx (put (put ρ "elem" (.fz (.thing t))) "el_tag" (.fz t)) (execs (pick (hit t) [.Expr (.Yield (some (.Name "elem" p5)) p6) p7] [])) (put (put ρ "elem" (.fz (.thing t))) "el_tag" (.fz t)) (if hit t then [.thing t] else []) := by
      cases hit t
      · exact gn_nil
      · exact gn_cons (gn_yield hco h2.1 (EE_loc k1 e3)) gn_nil rfl
    exact ⟨_, gn_cons ga (gn_cons (gn_if (pos := p8) gt gb) gn_nil (List.append_nil _)) rfl, h2⟩) ts _ hl hts
  exact ⟨ρ', gn_cons (gn_for (gi_list (.name _ _) rfl (EE_loc k0 rfl)) h) gn_nil (List.append_nil _)⟩
end
noncomputable def els (n : Nat) : List Stmt := match n with
  | 0 => [stm 15 1]
  | n + 1 => elsOf (at_ (els n) 0)
noncomputable def dLo : Stmt := at_ (bodyOf (at_ (els 2) 0)) 3
noncomputable def dHi : Stmt := at_ (bodyOf (at_ (els 3) 0)) 2
noncomputable abbrev selD (d : Stmt) : Stmt := .FunctionDef "select" (parOf d) (bodyOf d) [] none [] (scopeOf d) none "select" (posOf d)
theorem body15 : ∃ ip rp rpos, bodyOf (nth 15) = [stm 15 0, .If (tgtOf (stm 15 1)) (bodyOf (stm 15 1)) (els 1) ip, .Return (some (.Name "select" rp)) rpos] := ⟨_, _, _, rfl⟩
noncomputable def signL : List Str := ["a", "\\a", "\\\"", "\\\\"]
noncomputable def xLo (y : Str) : Str := "{*}" ++ y
noncomputable def xHi (z : Str) : Str := "{" ++ z ++ "}*"
noncomputable def nLo (y : Str) : Int := -((y.length + 1 : Nat) : Int)
noncomputable def nHi (z : Str) : Int := ((z.length + 2 : Nat) : Int)
noncomputable def sLo (y : Str) : Str := "}" ++ y
noncomputable def sHi (z : Str) : Str := "{" ++ z ++ "}"
noncomputable abbrev ρ15 (x : Str) : Ro := [("tag", .fz (.str x)), ("_isinstance", .fz (.prim (.builtin "isinstance"))), ("_str", .fz (.prim (.type "str")))]
noncomputable abbrev ρLo (y : Str) : Ro := [("tag", .fz (.str y)), ("_isinstance", .fz (.prim (.builtin "isinstance"))), ("_str", .fz (.prim (.type "str"))), ("suffix", .fz (.str (sLo y))), ("no_ns", .fz (.sl (some (nLo y)) none))]
noncomputable abbrev ρHi (z : Str) : Ro := [("tag", .fz (.str (xHi z))), ("_isinstance", .fz (.prim (.builtin "isinstance"))), ("_str", .fz (.prim (.type "str"))), ("ns", .fz (.str (sHi z))), ("ns_only", .fz (.sl none (some (nHi z))))]
noncomputable abbrev crLo (y : Str) : Ro := [("tag", .fz (.str y)), ("suffix", .fz (.str (sLo y))), ("no_ns", .fz (.sl (some (nLo y)) none)), ("_isinstance", .fz (.prim (.builtin "isinstance"))), ("_str", .fz (.prim (.type "str")))]
noncomputable abbrev crHi (z : Str) : Ro := [("ns", .fz (.str (sHi z))), ("ns_only", .fz (.sl none (some (nHi z)))), ("_isinstance", .fz (.prim (.builtin "isinstance"))), ("_str", .fz (.prim (.type "str")))]
noncomputable def hLo (y : Str) : AV → Bool
  | .str u => u == y || Txt.slice u (some (nLo y)) none == sLo y
  | _ => false
noncomputable def hHi (z : Str) : AV → Bool
  | .str u => Txt.slice u none (some (nHi z)) == sHi z
  | _ => false
/-- the tags that a select can be asked about -/
noncomputable def tagB : AV → Bool
  | .none => true
  | .str u => PyData.strOk u && signL.all fun y => PyData.strOk (Txt.slice u (some (nLo y)) none) && PyData.strOk (Txt.slice u none (some (nHi y)))
  | _ => false
inductive TagB : AV → Prop
  | none : TagB .none
  | str {u : Str} : PyData.strOk u = true → (∀ y ∈ signL, PyData.strOk (Txt.slice u (some (nLo y)) none) = true ∧ PyData.strOk (Txt.slice u none (some (nHi y))) = true) → TagB (.str u)
theorem tagB_ok {t : AV} (h : tagB t = true) : TagB t := by
  cases t with
  | none => exact .none
  | str u =>
    have h := Bool.and_eq_true_iff.mp h
    exact .str h.1 fun y hy => Bool.and_eq_true_iff.mp (List.all_eq_true.mp h.2 y hy)
  | _ => cases h
theorem cmp_noneS {b : Str} (hb : PyData.strOk b = true) : CmpOk .Eq .none (.str b) false := cmp_eqD (n := 0) (da := .none) (db := .str b) .none (.str hb) (Nat.zero_le _)
section
variable {l : L} {fI : Addr}
theorem lo_run {y : Str} {ts : List AV} (C : ClsIs l.h fI) (hy : y ∈ signL) (ht : ts.all tagB = true) : ∃ ρ', Gn l (cxOf dLo) (selRo (ts.map .thing) (crLo y)) (execs (bodyOf dLo)) ρ' ((ts.filter (hLo y)).map .thing) := by
  have h1 : PyData.strOk y = true ∧ PyData.strOk (sLo y) = true := Bool.and_eq_true_iff.mp (List.all_eq_true.mp (show signL.all (fun y => PyData.strOk y && PyData.strOk (sLo y)) = true by decide +kernel) y hy)
  have f0 : kLoc (cxOf dLo) "tag" = true := by decide +kernel
  have f1 : kLoc (cxOf dLo) "suffix" = true := by decide +kernel
  have f2 : kLoc (cxOf dLo) "no_ns" = true := by decide +kernel
  have f3 : kLoc (cxOf dLo) "_isinstance" = true := by decide +kernel
  have f4 : kLoc (cxOf dLo) "_str" = true := by decide +kernel
  have f5 : kLoc (cxOf dLo) "el_tag" = true := by decide +kernel
  conv in (bodyOf _) => whnf
  refine sel_run (ok := fun t => tagB t = true) C ⟨rfl, rfl, rfl, rfl, rfl⟩ (by decide +kernel) (by decide +kernel) (by decide +kernel) (by decide +kernel) (by decide +kernel) (fun t ht => ?_) (List.all_eq_true.mp ht)
  cases tagB_ok ht with
  | none => exact ⟨⟨_, .none⟩, fun ρ' hl hr => TT_bools (bools_or (TT_cmp rfl (EE_loc f5 hr) (EE_loc f0 (hl.2 _ _ rfl)) (cmp_noneS h1.1)) fun _ => TT_bools (bools_and (b := false) (TT_call (ES_isi (EE_loc f3 (hl.2 _ _ rfl)) (EE_loc f5 hr) (EE_loc f4 (hl.2 _ _ rfl)) .none)) fun h => nomatch h))⟩
  | @str u hu hs => exact ⟨⟨_, .str⟩, fun ρ' hl hr => TT_bools (bools_or (TT_cmp rfl (EE_loc f5 hr) (EE_loc f0 (hl.2 _ _ rfl)) (cmp_eqS hu h1.1)) fun _ => TT_bools (bools_and (TT_call (ES_isi (EE_loc f3 (hl.2 _ _ rfl)) (EE_loc f5 hr) (EE_loc f4 (hl.2 _ _ rfl)) .str)) fun _ => TT_cmp rfl (ES_sl rfl (EE_loc f5 hr) (EE_loc f2 (hl.2 _ _ rfl)) rfl) (EE_loc f1 (hl.2 _ _ rfl)) (cmp_eqS (hs y hy).1 h1.2)))⟩
theorem hi_run {z : Str} {ts : List AV} (C : ClsIs l.h fI) (hz : z ∈ signL) (ht : ts.all tagB = true) : ∃ ρ', Gn l (cxOf dHi) (selRo (ts.map .thing) (crHi z)) (execs (bodyOf dHi)) ρ' ((ts.filter (hHi z)).map .thing) := by
  have h1 : PyData.strOk (sHi z) = true := List.all_eq_true.mp (show signL.all (fun y => PyData.strOk (sHi y)) = true by decide +kernel) z hz
  have f1 : kLoc (cxOf dHi) "ns" = true := by decide +kernel
  have f2 : kLoc (cxOf dHi) "ns_only" = true := by decide +kernel
  have f3 : kLoc (cxOf dHi) "_isinstance" = true := by decide +kernel
  have f4 : kLoc (cxOf dHi) "_str" = true := by decide +kernel
  have f5 : kLoc (cxOf dHi) "el_tag" = true := by decide +kernel
  conv in (bodyOf _) => whnf
  refine sel_run (ok := fun t => tagB t = true) C ⟨rfl, rfl, rfl, rfl, rfl⟩ (by decide +kernel) (by decide +kernel) (by decide +kernel) (by decide +kernel) (by decide +kernel) (fun t ht => ?_) (List.all_eq_true.mp ht)
  cases tagB_ok ht with
  | none => exact ⟨⟨_, .none⟩, fun ρ' hl hr => TT_bools (bools_and (b := false) (TT_call (ES_isi (EE_loc f3 (hl.2 _ _ rfl)) (EE_loc f5 hr) (EE_loc f4 (hl.2 _ _ rfl)) .none)) fun h => nomatch h)⟩
  | @str u hu hs => exact ⟨⟨_, .str⟩, fun ρ' hl hr => TT_bools (bools_and (TT_call (ES_isi (EE_loc f3 (hl.2 _ _ rfl)) (EE_loc f5 hr) (EE_loc f4 (hl.2 _ _ rfl)) .str)) fun _ => TT_cmp rfl (ES_sl rfl (EE_loc f5 hr) (EE_loc f2 (hl.2 _ _ rfl)) rfl) (EE_loc f1 (hl.2 _ _ rfl)) (cmp_eqS (hs z hz).2 h1))⟩
end
set_option compiler.extract_closed false
local macro_rules | `(tactic| walk_at "n") => `(tactic| first | decide | omega | (exact Or.inr (by decide)) | (exact Or.inl (by first | (with_reducible assumption) | decide)) | ((simp only [List.length_cons, List.length_nil, List.length_append, List.length_map, sizeLine_eq]); omega) | rfl | decide +kernel | (with_reducible solve_by_elim only [*]))
local macro_rules | `(tactic| walk_at "p") => `(tactic| first | (with_reducible first | exact puts_hit | exact puts_nil | exact fm_nil | exact cap_nil) | ((with_reducible apply puts_miss); kernel_rfl; walk_at "p") | ((with_reducible apply fm_fz); walk_at "p") | ((with_reducible apply fm_hit); decide +kernel; walk_at "p") | ((with_reducible apply fm_miss); kernel_rfl; walk_at "p") | ((with_reducible apply cap_hit); exact rfl; walk_at "p") | ((with_reducible apply cap_miss); exact rfl; walk_at "p"))
local macro_rules | `(tactic| walk_at "j") => `(tactic| focus first | ((with_reducible show EV _ _ _ _ _); first | (with_reducible first | exact EE_int | exact EE_none | exact EE_bool | exact EE_flt) | ((with_reducible first | apply EE_str | apply EE_bin | apply EE_neg | apply EE_list | apply EE_tup | apply EE_comp | apply EE_cmp) <;> walk_at "j") | ((with_reducible apply EE_loc) <;> walk_at "j") | ((with_reducible apply EE_idx) <;> walk_at "j") | ((with_reducible apply EE_repl) <;> walk_at "j") | ((with_reducible apply EE_sel) <;> walk_at "j") | ((with_reducible apply EE_listG) <;> walk_at "j") | ((with_reducible apply EE_call) <;> walk_at "j") | ((with_reducible apply EE_meth) <;> walk_at "j") | ((with_reducible apply EE_slLE) <;> walk_at "j") | ((with_reducible apply EE_slL) <;> walk_at "j") | ((with_reducible apply EE_slS) <;> walk_at "j") | ((with_reducible apply EE_glob) <;> walk_at "j") | ((with_reducible apply EE_ifT) <;> walk_at "j") | ((with_reducible apply EE_ifF) <;> walk_at "j") | ((with_reducible apply EE_ifI) <;> walk_at "j") | ((with_reducible apply EE_ifB) <;> walk_at "j") | (with_reducible assumption)) | ((with_reducible show List.lookup _ _ = _); first | (exact rfl) | (with_reducible assumption)) | ((with_reducible first | show kLoc _ _ = _ | show kGlob _ _ = _ | show canStore _ _ = _ | show freshT _ _ = _); kernel_rfl) | ((with_reducible show Plain _); exact fun _ _ _ => rfl) | ((with_reducible show (_ : Bool) = _); first | (with_reducible assumption) | (exact decide_eq_true (by omega)) | (exact decide_eq_false (by omega)) | decide +kernel | (exact (show _ = false from rfl)) | (exact (show _ = true from rfl)) | rfl) | ((with_reducible show EVs _ _ _ _ _); first | (with_reducible exact exprs_nil) | ((with_reducible apply exprs_cons) <;> walk_at "j")) | ((with_reducible show BinOk _ _ _ _); first | (with_reducible first | assumption | exact bin_addI | exact bin_subI | exact bin_and | exact bin_addF | exact bin_subF | exact bin_mulF) | ((with_reducible first | apply bin_mod | apply bin_fdiv | apply bin_mulI | apply bin_pow | apply bin_addS | apply bin_addL | apply bin_shr | apply bin_modF | apply bin_divF | apply bin_mulFI | apply bin_divI | apply bin_mulS) <;> walk_at "j") | (with_reducible (solve_by_elim only [*]))) | ((with_reducible show TV _ _ _ _ _); first | (with_reducible assumption) | ((with_reducible first | apply TT_cmp | apply TT_not | apply TT_name | apply TT_bools) <;> walk_at "j")) | ((with_reducible show CmpOk _ _ _ _); first | (with_reducible first | assumption | exact cmp_ltI | exact cmp_leI | exact cmp_gtI | exact cmp_ltF | exact cmp_leF | exact cmp_eqF | exact cmp_isN | exact cmp_isI | exact cmp_eqI) | ((with_reducible first | apply cmp_eqS | apply cmp_neS) <;> walk_at "j") | (with_reducible (solve_by_elim only [*]))) | ((with_reducible show IdxOk _ _ _); first | (with_reducible first | assumption | (solve_by_elim only [*]) | exact ix_0 | exact ix_1 | exact ix_2 | exact ix_3) | exact ix_0 | exact ix_1 | exact ix_2 | exact ix_3 | exact it_0 | exact it_1) | ((with_reducible first | show FN _ _ _ _ | show MT _ _ _ _ _ | show GF _ _ _ _); (with_reducible first | assumption | (solve_by_elim only [*]))) | ((with_reducible show GC _ _ _); (with_reducible assumption)) | ((with_reducible show AugOk _ _ _ _); first | (with_reducible first | assumption | exact aug_addI) | ((with_reducible first | apply aug_mod | apply aug_fdiv | apply aug_addS) <;> walk_at "j") | (with_reducible (solve_by_elim only [*]))) | ((with_reducible show frzM _ _ = _); first | ((with_reducible apply frzM_all); kernel_rfl!) | ((refine' (?f1 : _ → _) ?z1); (intro hh; show type_of% hh; clear hh); (case' z1 => walk_at "p"); kernel_rfl)) | ((with_reducible show put _ _ _ = _); ((refine' (?f1 : _ → _) ?z1); (intro hh; show type_of% hh; clear hh); (case' z1 => walk_at "p"); exact rfl)) | ((with_reducible show capA _ _ = _); ((refine' (?f1 : _ → _) ?z1); (intro hh; show type_of% hh; clear hh); (case' z1 => walk_at "p"); kernel_rfl)) | ((with_reducible show (_ : List _) = _); first | (with_reducible assumption) | ((conv => lhs; simp only [Int.reduceToNat, List.eraseIdx_cons_succ, List.eraseIdx_cons_zero, List.eraseIdx_zero, List.tail_cons, List.cons_append, List.nil_append, List.append_nil, List.set_cons_succ, List.set_cons_zero, List.reverse_cons, List.reverse_nil, List.map_cons, List.map_nil]); done) | rfl) | ((with_reducible show XS _ _ _ _ _); first | (with_reducible first | assumption | exact run_nil) | ((with_reducible first | apply run_retE | apply run_if | apply run_cons | apply pick_T | apply pick_F) <;> walk_at "j")) | ((with_reducible show SS _ _ _ _ _); first | ((with_reducible first | apply SS_asg | apply SS_aug | apply SN_extend | apply SN_augI | apply SS_ret | apply SS_for) <;> walk_at "j") | ((with_reducible apply SN_appop) <;> walk_at "j") | ((with_reducible apply SN_append) <;> walk_at "j")) | ((with_reducible show AS _ _ _ _ _ _); ((with_reducible first | apply asg_tup | apply asg_comp | apply asg_list | apply asg_val) <;> walk_at "j")) | ((with_reducible show AsgT _ _ _ _ _); ((with_reducible first | apply asgT_name | apply asgT_tup | apply asgT_pair) <;> walk_at "j")) | ((with_reducible show AsgN _ _ _ _ _); first | (with_reducible exact asgNames_nil) | ((with_reducible apply asgNames_cons) <;> walk_at "j")) | ((with_reducible show Cont _ _ _ _ _); first | (with_reducible exact cont_ret) | ((with_reducible apply cont_next) <;> walk_at "j")) | ((with_reducible show IT _ _ _ _ _ _); first | (with_reducible assumption) | ((with_reducible apply it_range1) <;> walk_at "j") | ((with_reducible apply it_range2) <;> walk_at "j") | ((with_reducible apply it_zipE) <;> walk_at "j") | ((with_reducible apply it_zip) <;> walk_at "j") | ((with_reducible apply itN_val) <;> walk_at "j") | ((with_reducible apply itT_list) <;> walk_at "j")) | ((with_reducible show ForR _ _ _ _ _ _ _); first | (with_reducible exact for_nil) | ((with_reducible apply for_cons) <;> walk_at "j")) | ((with_reducible show CM _ _ _ _ _ _ _ _); ((with_reducible first | apply cm_one | apply cm_two) <;> walk_at "j")) | ((with_reducible show Cat _ _ _); first | (with_reducible exact cat_nil) | ((with_reducible apply catN_cons) <;> walk_at "j") | ((with_reducible apply cat_map) <;> (intro _ _; walk_at "j"))) | ((with_reducible show T1 _ _ _ _ _ _ _ _); first | ((with_reducible apply turn1_all) <;> walk_at "j") | ((with_reducible apply turn1_if) <;> walk_at "j")) | ((with_reducible show T2 _ _ _ _ _ _ _ _ _ _ _); ((with_reducible apply turn2_all) <;> walk_at "j")) | ((with_reducible show Slots _ _ _ _ _); first | (with_reducible exact slots_nil) | ((with_reducible apply slots_own) <;> walk_at "j") | ((with_reducible apply slots_cons) <;> walk_at "j")) | ((with_reducible show PutR _ _ _ _ _); first | (with_reducible exact put_nil) | ((with_reducible apply put_cons) <;> walk_at "j")) | ((with_reducible show TupA _ _ _ _ _ _); first | ((with_reducible apply tupN_swap) <;> walk_at "j") | ((with_reducible apply tupN_plain) <;> walk_at "j")) | ((with_reducible show Names _ _); first | (with_reducible exact names_nil) | ((with_reducible apply names_cons) <;> walk_at "j")) | ((with_reducible show OV _ _ _ _ _); first | (with_reducible exact opt_none) | ((with_reducible apply opt_some) <;> walk_at "j")) | ((with_reducible show BV _ _ _ _ _ _); first | ((with_reducible apply bools_or3) <;> walk_at "j") | ((with_reducible apply bools_or) <;> walk_at "j") | ((with_reducible apply bools_and) <;> walk_at "j")) | ((with_reducible show SeqA _ _); (with_reducible first | exact seq_list | exact seq_tup)) | ((with_reducible show SLm _ _ _ _); (with_reducible first | assumption | (solve_by_elim only [*]))) | ((with_reducible show RgOk _ _ _); first | (with_reducible first | assumption | exact range_3 | exact range_4 | exact range_5 | exact range_9) | exact range_14 | exact range_24 | exact range_34 | exact range_44) | (with_reducible assumption) | ((with_reducible intro _); walk_at "j") | ((with_reducible first | show _ = _ | show _ ∧ _ | show _ ≠ _ | show _ ≤ _ | show _ < _ | show _ ∨ _ | show _ ∈ _ | show ¬ _); walk_at "n"))
theorem bin_modE {a b c : Int} (h : b ≠ 0) (e : a.fmod b = c) : BinOk .Mod (.int a) (.int b) (.int c) := e ▸ bin_mod h
noncomputable def signs : List Str := ["a", "\\a", "\\\"", "\\\\"]
noncomputable def namesS (a b c : Nat) : List Str := [signs.getD a "a", (signs.eraseIdx a).getD b "a", ((signs.eraseIdx a).eraseIdx b).getD c "a", (((signs.eraseIdx a).eraseIdx b).eraseIdx c).getD 0 "a"]
noncomputable def nmOf (n : Int) : List Str := namesS (n.fmod 4).toNat ((n.fdiv 4).fmod 3).toNat (((n.fdiv 4).fdiv 3).fmod 2).toNat
theorem names_run {ℓ : L} {n j4 j3 j2 j1 : Int} {a4 a3 a2 a1 : AV} (h4 : BinOk .Mod (.int n) (.int 4) (.int j4)) (h3 : BinOk .Mod (.int (n.fdiv 4)) (.int 3) (.int j3)) (h2 : BinOk .Mod (.int ((n.fdiv 4).fdiv 3)) (.int 2) (.int j2)) (h1 : BinOk .Mod (.int (((n.fdiv 4).fdiv 3).fdiv 2)) (.int 1) (.int j1))
    (g4 : 0 ≤ j4 ∧ j4 < 2 ^ 62) (g3 : 0 ≤ j3 ∧ j3 < 2 ^ 62) (g2 : 0 ≤ j2 ∧ j2 < 2 ^ 62) (g1 : 0 ≤ j1 ∧ j1 < 2 ^ 62)
    (v4 : [AV.str "a", .str "\\a", .str "\\\"", .str "\\\\"][j4.toNat]? = some a4) (v3 : ([AV.str "a", .str "\\a", .str "\\\"", .str "\\\\"].eraseIdx j4.toNat)[j3.toNat]? = some a3) (v2 : (([AV.str "a", .str "\\a", .str "\\\"", .str "\\\\"].eraseIdx j4.toNat).eraseIdx j3.toNat)[j2.toNat]? = some a2)
    (v1 : ((([AV.str "a", .str "\\a", .str "\\\"", .str "\\\\"].eraseIdx j4.toNat).eraseIdx j3.toNat).eraseIdx j2.toNat)[j1.toNat]? = some a1) :
    ∃ ρ', XS ℓ (cxOf (nth 20)) [("number", .fz (.int n))] (bodyOf (nth 20)) (ρ', .ret (.list [a4, a3, a2, a1])) := by
  conv in (bodyOf _) => whnf
  apply Exists.intro
  walk_at "j"
theorem fmod_lt (n : Int) {m : Int} (h : 0 < m) : 0 ≤ n.fmod m ∧ n.fmod m < m := ⟨by rw [Int.fmod_eq_emod_of_nonneg n (Int.le_of_lt h)]; exact Int.emod_nonneg n (Int.ne_of_gt h), Int.fmod_lt_of_pos n h⟩
theorem names_cases (n : Int) : ∃ a b c : Nat, a < 4 ∧ b < 3 ∧ c < 2 ∧ n.fmod 4 = a ∧ (n.fdiv 4).fmod 3 = b ∧ ((n.fdiv 4).fdiv 3).fmod 2 = c := by
  obtain ⟨p1, p2⟩ := fmod_lt n (m := 4) (by decide)
  obtain ⟨q1, q2⟩ := fmod_lt (n.fdiv 4) (m := 3) (by decide)
  obtain ⟨r1, r2⟩ := fmod_lt ((n.fdiv 4).fdiv 3) (m := 2) (by decide)
  exact ⟨_, _, _, by omega, by omega, by omega, (Int.toNat_of_nonneg p1).symm, (Int.toNat_of_nonneg q1).symm, (Int.toNat_of_nonneg r1).symm⟩
theorem names_all : ∀ a < 4, ∀ b < 3, ∀ c < 2, namesS a b c ∈ (List.range 24).map fun i => namesS (i % 4) (i / 4 % 3) (i / 12 % 2) := by decide +kernel
theorem run_names (ℓ : L) (n : Int) : ∃ ρ', XS ℓ (cxOf (nth 20)) [("number", .fz (.int n))] (bodyOf (nth 20)) (ρ', .ret (.list ((nmOf n).map .str))) := by
  obtain ⟨a, b, c, ha, hb, hc, e4, e3, e2⟩ := names_cases n
  have hn : nmOf n = namesS a b c := by
    unfold nmOf; rw [e4, e3, e2]; rfl
  rw [hn]
  have e1 : (((n.fdiv 4).fdiv 3).fdiv 2).fmod 1 = 0 := by
    have := fmod_lt (((n.fdiv 4).fdiv 3).fdiv 2) (m := 1) (by decide)
    omega
  refine names_run (j4 := a) (j3 := b) (j2 := c) (j1 := 0) (bin_modE (by decide) e4) (bin_modE (by decide) e3) (bin_modE (by decide) e2) (bin_modE (by decide) e1)
    (by omega) (by omega) (by omega) (by decide) ?_ ?_ ?_ ?_ <;> rw [Int.toNat_natCast] <;> (try rw [Int.toNat_natCast]) <;> (try rw [Int.toNat_natCast]) <;>
    (match a, ha with
    | 0, _ | 1, _ | 2, _ | 3, _ => match b, hb with
      | 0, _ | 1, _ | 2, _ => match c, hc with
        | 0, _ | 1, _ => rfl)
noncomputable def absI (i : Int) : Int := if i < 0 then -i else i
noncomputable def wayI (l o : Int) : Int := minI (absI (l - o)) (2 ^ 30 - absI (l - o))
noncomputable def ballotP (l a b c d : Int) : List (Int × Int) := [(wayI l a, 0), (wayI l b, 1), (wayI l c, 2), (wayI l d, 3)]
theorem run_ballot {ℓ : L} (T : TopIs ℓ.h) (habs : ∀ i, FN ℓ "abs" [.int i] (.int (absI i))) (hmin : ∀ a b, FN ℓ "min" [.int a, .int b] (.int (minI a b)))
    (hsrt : ∀ a b c d : Int, FN ℓ "sorted" [.list [.tup [.int a, .int 0], .tup [.int b, .int 1], .tup [.int c, .int 2], .tup [.int d, .int 3]]] (.list ((sortP [(a, 0), (b, 1), (c, 2), (d, 3)]).map pairAV)))
    (hz : ∀ a b c d : Int, ((sortP [(a, 0), (b, 1), (c, 2), (d, 3)]).flatMap fun x => [AV.int x.2]).length ≤ 1000000) {l a b c d : Int} :
    ∃ ρ', XS ℓ (cxOf (nth 22)) [("light", .fz (.int l)), ("lights", .fz (.list [.int a, .int b, .int c, .int d]))] (bodyOf (nth 22)) (ρ', .ret (.list ((sortP (ballotP l a b c d)).map fun x => .int x.2))) := by
  conv in (bodyOf _) => whnf
  apply ret_to
  walk_at "j"
  rw [flat_one]
  rfl
noncomputable def cellRo (ns : List Int) (c : List Int) (k : List Int) : Ro := ("script", Sl.fz (.list (ns.map .int))) :: ("cells", Sl.own (c.map .int)) :: k.map fun i => ("k", Sl.fz (.int i))
noncomputable def cellsTgt : Expr := tgtOf (stm 18 1)
noncomputable def cellsBody : List Stmt := bodyOf (stm 18 1)
theorem cells_step {ℓ : L} {ns : List Int} {c0 c1 c2 c3 i v : Int} (hv : IdxOk (.list (ns.map .int)) (.int i) (.int v)) :
    ∃ d0 d1 d2 d3, XS ℓ (cxOf (nth 18)) (cellRo ns [c0, c1, c2, c3] [i]) cellsBody (cellRo ns [d0, d1, d2, d3] [i], .next) := by
  obtain ⟨p1, p2⟩ := fmod_lt i (m := 4) (by decide)
  have e : i.fmod 4 = 0 ∨ i.fmod 4 = 1 ∨ i.fmod 4 = 2 ∨ i.fmod 4 = 3 := by omega
  unfold cellRo
  simp only [List.map_cons, List.map_nil, List.cons_append, List.nil_append]
  conv in (occs := 1) cellsBody => whnf
  rcases e with e | e | e | e
  · have hb : BinOk .Mod (.int i) (.int 4) (.int 0) := bin_modE (by decide) e
    iterate 4 apply Exists.intro
    walk_at "j"
  · have hb : BinOk .Mod (.int i) (.int 4) (.int 1) := bin_modE (by decide) e
    iterate 4 apply Exists.intro
    walk_at "j"
  · have hb : BinOk .Mod (.int i) (.int 4) (.int 2) := bin_modE (by decide) e
    iterate 4 apply Exists.intro
    walk_at "j"
  · have hb : BinOk .Mod (.int i) (.int 4) (.int 3) := bin_modE (by decide) e
    iterate 4 apply Exists.intro
    walk_at "j"
theorem cells_loop {ℓ : L} {ns : List Int} : ∀ (ks : List Nat), (∀ i ∈ ks, i < ns.length ∧ i < 64) → ∀ (c0 c1 c2 c3 : Int) (l : List Int), ∃ (d0 d1 d2 d3 : Int) (l' : List Int), ForR ℓ (cxOf (nth 18)) cellsBody cellsTgt (cellRo ns [c0, c1, c2, c3] (l.take 1)) (ks.map fun i => .int ((0 : Int) + (i : Nat))) (cellRo ns [d0, d1, d2, d3] (l'.take 1), .next)
  | [], _, c0, c1, c2, c3, l => ⟨c0, c1, c2, c3, l, .nil⟩
  | i :: ks, h, c0, c1, c2, c3, l => by
    obtain ⟨h1, h2⟩ := h i List.mem_cons_self
    have hv : IdxOk (.list (ns.map .int)) (.int ((0 : Int) + (i : Nat))) (.int ns[i]) := idx_list (by omega) (by rw [show ((0 : Int) + (i : Nat)).toNat = i by omega, List.getElem?_map, List.getElem?_eq_getElem h1]; rfl)
    obtain ⟨d0, d1, d2, d3, e⟩ := cells_step (ℓ := ℓ) (c0 := c0) (c1 := c1) (c2 := c2) (c3 := c3) hv
    obtain ⟨f0, f1, f2, f3, l', f⟩ := cells_loop ks (fun j hj => h j (List.mem_cons_of_mem _ hj)) d0 d1 d2 d3 [(0 : Int) + (i : Nat)]
    refine ⟨f0, f1, f2, f3, l', ?_⟩
    rw [List.map_cons]
    refine for_cons (ρ1 := cellRo ns [c0, c1, c2, c3] [(0 : Int) + (i : Nat)]) ?_ e f
    conv in (occs := 1) cellsTgt => whnf
    cases l with
    | nil => unfold cellRo; simp only [List.take_nil, List.map_cons, List.map_nil]; walk_at "j"
    | cons x l => unfold cellRo; simp only [List.take_succ_cons, List.take_zero, List.map_cons, List.map_nil]; walk_at "j"
theorem run_cells {ℓ : L} (T : TopIs ℓ.h) (hlen : ∀ l, FN ℓ "len" [.list l] (.int l.length)) {ns : List Int} (hn : ns.length < 64) :
    ∃ ρ' c0 c1 c2 c3, XS ℓ (cxOf (nth 18)) [("script", .fz (.list (ns.map .int)))] (bodyOf (nth 18)) (ρ', .ret (.list [.int c0, .int c1, .int c2, .int c3])) := by
  obtain ⟨d0, d1, d2, d3, l', f⟩ := cells_loop (ℓ := ℓ) (ns := ns) (List.range ns.length) (fun i hi => by have := List.mem_range.mp hi; omega) 3529 33350 471546724 2206 []
  have hr : RgOk 0 ((ns.map AV.int).length : Int) ((List.range ns.length).map fun i => .int ((0 : Int) + (i : Nat))) := by
    rw [List.length_map]; exact rg_of (Nat.lt_trans hn (by decide))
  conv in (occs := 1) bodyOf _ => whnf
  have e : ∃ ρ', cellRo ns [d0, d1, d2, d3] (l'.take 1) = (("script" : Str), Sl.fz (.list (ns.map .int))) :: (("cells" : Str), Sl.own [.int d0, .int d1, .int d2, .int d3]) :: ρ' ∧ (ρ' = [] ∨ ∃ i, ρ' = [(("k" : Str), Sl.fz (.int i))]) := by
    cases l' with
    | nil => exact ⟨[], rfl, .inl rfl⟩
    | cons x l => exact ⟨_, rfl, .inr ⟨x, rfl⟩⟩
  obtain ⟨ρ', e1, e2⟩ := e
  rw [e1] at f
  rcases e2 with rfl | ⟨i, rfl⟩
  all_goals
    iterate 5 apply Exists.intro
    with_reducible apply run_cons
    walk_at "j"
    with_reducible apply run_cons
    with_reducible apply SS_for
    walk_at "j"
    walk_at "j"
    exact f
    walk_at "j"
theorem cmp_neS {a b : Str} (ha : PyData.strOk a = true) (hb : PyData.strOk b = true) : CmpOk .NotEq (.str a) (.str b) (a != b) := by
  have this : CmpOk .NotEq (.str a) (.str b) (!PyData.eqv (.str a) (.str b)) := cmp_neD (n := 0) (.str ha) (.str hb) (Nat.zero_le _)
  rwa [PyData.eqv] at this
noncomputable abbrev oneF : UInt64 := 0x3ff0000000000000
noncomputable abbrev twoF : UInt64 := 0x4000000000000000
noncomputable abbrev fourF : UInt64 := 0x4010000000000000
noncomputable abbrev sixF : UInt64 := 0x4018000000000000
noncomputable abbrev halfF : UInt64 := 0x3fe0000000000000
structure GcF (ℓ : L) : Prop where
  third : GC ℓ "ONE_THIRD" (.flt c13)
  sixth : GC ℓ "ONE_SIXTH" (.flt c16)
  two : GC ℓ "TWO_THIRD" (.flt c23)
noncomputable def vF (m1 m2 h : UInt64) : UInt64 :=
  let hue := (Float64.divmod h oneF).snd
  if ltF hue c16 then Float64.add m1 (Float64.mul (Float64.mul (Float64.sub m2 m1) hue) sixF)
  else if ltF hue halfF then m2
  else if ltF hue c23 then Float64.add m1 (Float64.mul (Float64.mul (Float64.sub m2 m1) (Float64.sub c23 hue)) sixF)
  else m1
theorem run_v {ℓ : L} (G : GcF ℓ) {a b c : UInt64} : ∃ ρ', XS ℓ (cxOf (nth 10)) [("m1", .fz (.flt a)), ("m2", .fz (.flt b)), ("hue", .fz (.flt c))] (bodyOf (nth 10)) (ρ', .ret (.flt (vF a b c))) := by
  obtain ⟨g1, g2, g3⟩ := G
  conv in (bodyOf _) => whnf
  cases h1 : ltF (Float64.divmod c oneF).snd c16
  · cases h2 : ltF (Float64.divmod c oneF).snd halfF
    · cases h3 : ltF (Float64.divmod c oneF).snd c23
      · apply ret_to
        walk_at "j"
        simp [vF, h1, h2, h3]
      · apply ret_to
        walk_at "j"
        simp [vF, h1, h2, h3]
    · apply ret_to
      walk_at "j"
      simp [vF, h1, h2]
  · apply ret_to
    walk_at "j"
    simp [vF, h1]
noncomputable def hlsM2 (l s : UInt64) : UInt64 := if leF l halfF then Float64.mul l (Float64.add oneF s) else Float64.sub (Float64.add l s) (Float64.mul l s)
noncomputable def hlsF (h l s : UInt64) : UInt64 × UInt64 × UInt64 :=
  if eqF s 0 then (l, l, l) else
  let m2 := hlsM2 l s
  let m1 := Float64.sub (Float64.mul twoF l) m2
  (vF m1 m2 (Float64.add h c13), vF m1 m2 h, vF m1 m2 (Float64.sub h c13))
noncomputable def tri (t : UInt64 × UInt64 × UInt64) : AV := .tup [.flt t.1, .flt t.2.1, .flt t.2.2]
theorem run_hls {ℓ : L} (G : GcF ℓ) (hv : ∀ a b c, FN ℓ "_v" [.flt a, .flt b, .flt c] (.flt (vF a b c))) {a b c : UInt64} : ∃ ρ', XS ℓ (cxOf (nth 9)) [("h", .fz (.flt a)), ("l", .fz (.flt b)), ("s", .fz (.flt c))] (bodyOf (nth 9)) (ρ', .ret (tri (hlsF a b c))) := by
  obtain ⟨g1, g2, g3⟩ := G
  conv in (bodyOf _) => whnf
  cases h1 : eqF c 0
  · cases h2 : leF b halfF
    · apply ret_to
      walk_at "j"
      simp [hlsF, hlsM2, tri, h1, h2]
    · apply ret_to
      walk_at "j"
      simp [hlsF, hlsM2, tri, h1, h2]
  · apply ret_to
    walk_at "j"
    simp [hlsF, tri, h1]
noncomputable def satF (mx mn l : UInt64) : UInt64 × UInt64 := -- what is divided, and by what
  if leF l halfF then (Float64.sub mx mn, Float64.add mx mn) else (Float64.sub mx mn, Float64.sub (Float64.sub twoF mx) mn)
noncomputable def hueF (r g b mx mn : UInt64) : UInt64 :=
  let d := Float64.sub mx mn
  let rc := Float64.div (Float64.sub mx r) d
  let gc := Float64.div (Float64.sub mx g) d
  let bc := Float64.div (Float64.sub mx b) d
  let h := if eqF r mx then Float64.sub bc gc else if eqF g mx then Float64.sub (Float64.add twoF rc) bc else Float64.sub (Float64.add fourF gc) rc
  (Float64.divmod (Float64.div h sixF) oneF).snd
noncomputable def rgbF (r g b : UInt64) : Option (UInt64 × UInt64 × UInt64) :=
  let mx := maxF (maxF r g) b
  let mn := minF (minF r g) b
  let l := Float64.div (Float64.add mx mn) twoF
  if eqF mn mx then some (0, l, 0) else
  if Float64.isZero (satF mx mn l).2 || Float64.isZero (Float64.sub mx mn) then none else
  some (hueF r g b mx mn, l, Float64.div (satF mx mn l).1 (satF mx mn l).2)
theorem run_rgb {ℓ : L} (hmx : ∀ a b c, FN ℓ "max" [.flt a, .flt b, .flt c] (.flt (maxF (maxF a b) c))) (hmn : ∀ a b c, FN ℓ "min" [.flt a, .flt b, .flt c] (.flt (minF (minF a b) c)))
    {r g b : UInt64} {t : UInt64 × UInt64 × UInt64} (ht : rgbF r g b = some t) : ∃ ρ', XS ℓ (cxOf (nth 8)) [("r", .fz (.flt r)), ("g", .fz (.flt g)), ("b", .fz (.flt b))] (bodyOf (nth 8)) (ρ', .ret (tri t)) := by
  unfold rgbF at ht
  simp only at ht
  conv in (bodyOf _) => whnf
  cases h1 : eqF (minF (minF r g) b) (maxF (maxF r g) b)
  · rw [h1] at ht
    simp only [Bool.false_eq_true, if_false] at ht
    split at ht
    · cases ht
    · rename_i hz
      simp only [Bool.or_eq_true, not_or, Bool.not_eq_true] at hz
      obtain ⟨z1, z2⟩ := hz
      cases ht
      cases h2 : leF (Float64.div (Float64.add (maxF (maxF r g) b) (minF (minF r g) b)) twoF) halfF
      all_goals
        simp only [satF, h2, Bool.false_eq_true, if_false, if_true] at z1
        cases h3 : eqF r (maxF (maxF r g) b)
        · cases h4 : eqF g (maxF (maxF r g) b)
          · apply ret_to
            walk_at "j"
            simp [tri, satF, hueF, h2, h3, h4]
          · apply ret_to
            walk_at "j"
            simp [tri, satF, hueF, h2, h3, h4]
        · apply ret_to
          walk_at "j"
          simp [tri, satF, hueF, h2, h3]
  · rw [h1] at ht
    simp only [if_true] at ht
    cases ht
    apply ret_to
    walk_at "j"
    simp [tri]
noncomputable abbrev p30 : UInt64 := Float64.ofInt ((2 : Int) ^ (30 : Int).toNat)
noncomputable def dueOf (L S k : Int) : Int := L * 2 ^ 28 - (minI L (4 - L) * maxI (-32) (minI (minI (k - 96) (288 - k)) 32) * 2 ^ 23).fdiv S
theorem light_run {ℓ : L} (hmax : ∀ a b, FN ℓ "max" [.int a, .int b] (.int (maxI a b))) (hmin : ∀ a b, FN ℓ "min" [.int a, .int b] (.int (minI a b))) (hmin3 : ∀ a b c, FN ℓ "min" [.int a, .int b, .int c] (.int (minI (minI a b) c)))
    {p κ a b q L S k0 k8 k4 : Int} {r g bl h l s : UInt64} {R G B H Lt St : Int}
    (ha : BinOk .Mod (.int κ) (.int 3) (.int a)) (hb : BinOk .FloorDiv (.int κ) (.int 3) (.int b)) (hL : BinOk .Add (.int 1) (.int a) (.int L)) (hS : BinOk .Add (.int 1) (.int b) (.int S))
    (hq : BinOk .Mod (.int p) (.int 128) (.int q)) (hk0 : BinOk .Mod (.int (32 * 0 + 3 * p)) (.int 384) (.int k0)) (hk8 : BinOk .Mod (.int (32 * 8 + 3 * p)) (.int 384) (.int k8)) (hk4 : BinOk .Mod (.int (32 * 4 + 3 * p)) (.int 384) (.int k4))
    (d1 : BinOk .Div (.int q) (.int 128) (.flt (divII q 128))) (d2 : BinOk .Div (.int L) (.int 4) (.flt (divII L 4))) (d3 : BinOk .Div (.int 1) (.int S) (.flt (divII 1 S)))
    (hlamp : FN ℓ "hls_to_rgb" [.flt (divII q 128), .flt (divII L 4), .flt (divII 1 S)] (.tup [.flt r, .flt g, .flt bl])) (hrgb : FN ℓ "rgb_to_hls" [.flt r, .flt g, .flt bl] (.tup [.flt h, .flt l, .flt s]))
    (hR : FN ℓ "round" [.flt (Float64.mul r p30)] (.int R)) (hG : FN ℓ "round" [.flt (Float64.mul g p30)] (.int G)) (hB : FN ℓ "round" [.flt (Float64.mul bl p30)] (.int B))
    (hH : FN ℓ "round" [.flt (Float64.mul h p30)] (.int H)) (hLt : FN ℓ "round" [.flt (Float64.mul l p30)] (.int Lt)) (hSt : FN ℓ "round" [.flt (Float64.mul s p30)] (.int St))
    (hm : (minI L (4 - L)).natAbs < 2 ^ 63) (hS0 : S ≠ 0) (hSn : S.natAbs < 1073741824)
    (hdue : CmpOk .NotEq (.list [.int R, .int G, .int B]) (.list [.int (dueOf L S k0), .int (dueOf L S k8), .int (dueOf L S k4)]) false)
    (htold : CmpOk .Eq (.list [.int (H.fmod (2 ^ 30)), .int Lt, .int St]) (.list [.int (q * 2 ^ 23), .int (L * 2 ^ 28), .int ((2 ^ 30 : Int).fdiv S)]) true) :
    ∃ ρ', XS ℓ (cxOf (nth 21)) [("place", .fz (.int p)), ("kind", .fz (.int κ))] (bodyOf (nth 21)) (ρ', .ret (.int (H.fmod (2 ^ 30)))) := by
  conv in (bodyOf _) => whnf
  apply ret_to
  walk_at "j"
  rfl
noncomputable def fz {α} (x : UInt64) (f : UInt64 → α) : α := match x.toNat with | 0 => f 0 | n+1 => f (UInt64.ofNat (n+1))
theorem fz_eq {α} (x : UInt64) (f : UInt64 → α) : fz x f = f x := by
  unfold fz
  split
  · next h => rw [show x = 0 from UInt64.toNat_inj.mp h]
  · next n h => rw [show n + 1 = n.succ from rfl, ← h, UInt64.ofNat_toNat]
noncomputable def rndF (x : UInt64) : Int := Flt.toInt Float64.nearestOf x
noncomputable def finF (x : UInt64) : Bool := Float64.isFinite x && !Float64.isNaN x && !Float64.isInf x
noncomputable def q30 : UInt64 := 0x41d0000000000000
theorem q30_eq : p30 = q30 := by decide +kernel
noncomputable def vG (m1 m2 hue : UInt64) : UInt64 :=
  if ltF hue c16 then Float64.add m1 (Float64.mul (Float64.mul (Float64.sub m2 m1) hue) sixF)
  else if ltF hue halfF then m2
  else if ltF hue c23 then Float64.add m1 (Float64.mul (Float64.mul (Float64.sub m2 m1) (Float64.sub c23 hue)) sixF)
  else m1
noncomputable def vKK {α} (m1 m2 dd hue : UInt64) (f : UInt64 → α) : α :=
  if ltF hue c16 then fz (Float64.mul dd hue) fun t => fz (Float64.mul t sixF) fun t => fz (Float64.add m1 t) f
  else if ltF hue halfF then f m2
  else if ltF hue c23 then fz (Float64.sub c23 hue) fun t => fz (Float64.mul dd t) fun t => fz (Float64.mul t sixF) fun t => fz (Float64.add m1 t) f
  else f m1
theorem vKK_eq {α} (m1 m2 hue : UInt64) (f : UInt64 → α) : vKK m1 m2 (Float64.sub m2 m1) hue f = f (vG m1 m2 hue) := by
  unfold vKK vG
  simp only [fz_eq]
  split
  · rfl
  · split
    · rfl
    · split <;> rfl
noncomputable def chkR (x : UInt64) (k : UInt64 → Bool) : Bool := finF x && k x
-- one round: scaled, finite, gives n
noncomputable def rOk (x : UInt64) (n : Int) : Bool := fz (Float64.mul x q30) fun t => finF t && rndF t == n
noncomputable def hueK (r g b mx mn : UInt64) (f : UInt64 → Bool) : Bool :=
  fz (Float64.sub mx mn) fun d =>
  fz (Float64.div (Float64.sub mx r) d) fun rc =>
  fz (Float64.div (Float64.sub mx g) d) fun gc =>
  fz (Float64.div (Float64.sub mx b) d) fun bc =>
  fz (if eqF r mx then Float64.sub bc gc else if eqF g mx then Float64.sub (Float64.add twoF rc) bc else Float64.sub (Float64.add fourF gc) rc) fun h =>
  fz (Float64.div h sixF) fun h => fz (Float64.divmod h oneF).snd f
theorem hueK_eq (r g b mx mn : UInt64) (f) : hueK r g b mx mn f = f (hueF r g b mx mn) := by
  simp only [hueK, fz_eq, hueF]
noncomputable def rgbK (r g b : UInt64) (H L S : Int) : Bool :=
  fz (maxF (maxF r g) b) fun mx =>
  fz (minF (minF r g) b) fun mn =>
  fz (Float64.div (Float64.add mx mn) twoF) fun l =>
  !(eqF mn mx) && (!(Float64.isZero (satF mx mn l).2) && (!(Float64.isZero (Float64.sub mx mn)) &&
  (rOk l L && (fz (Float64.div (satF mx mn l).1 (satF mx mn l).2) (fun s => rOk s S) &&
  hueK r g b mx mn fun h => fz (Float64.mul h q30) fun t => finF t && (rndF t).fmod (2 ^ 30) == H))))
noncomputable def kOk (m1 m2 dd u v w : UInt64) (dr dg db H L S : Int) : Bool :=
  vKK m1 m2 dd u fun r => vKK m1 m2 dd v fun g => vKK m1 m2 dd w fun b => rOk r dr && (rOk g dg && (rOk b db && rgbK r g b H L S))
noncomputable def LL (κ : Int) : Int := 1 + κ.fmod 3
noncomputable def SS' (κ : Int) : Int := 1 + κ.fdiv 3
noncomputable def kindOk (κ : Int) (m1 m2 dd : UInt64) : Bool :=
  fz (divII (LL κ) 4) fun l => fz (divII 1 (SS' κ)) fun s => fz (hlsM2 l s) fun m => !(eqF s 0) && (!(Float64.isInf l) && (!(Float64.isInf s) && (m == m2 && (fz (Float64.mul twoF l) fun t => fz (Float64.sub t m) fun t => t == m1 && Float64.sub m2 m1 == dd))))
noncomputable def mT (κ : Int) : UInt64 × UInt64 × UInt64 := match κ.toNat with
  | 0 => (0, 4602678819172646912, 4602678819172646912)
  | 1 => (0, 4607182418800017408, 4607182418800017408)
  | 2 => (4602678819172646912, 4607182418800017408, 4602678819172646912)
  | 3 => (4593671619917905920, 4600427019358961664, 4598175219545276416)
  | 4 => (4598175219545276416, 4604930618986332160, 4602678819172646912)
  | _ => (4603804719079489536, 4606056518893174784, 4598175219545276416)
theorem kinds_ok : (List.range 6).all (fun κ => kindOk κ (mT κ).1 (mT κ).2.1 (mT κ).2.2) = true := by decide +kernel
noncomputable def qOk (q : Int) : Bool :=
  fz (divII q 128) fun x => !(Float64.isInf x) && (fz (Float64.divmod (Float64.add x c13) oneF).snd fun u => fz (Float64.divmod x oneF).snd fun v => fz (Float64.divmod (Float64.sub x c13) oneF).snd fun w =>
  (List.range 6).all fun κ => kOk (mT κ).1 (mT κ).2.1 (mT κ).2.2 u v w (dueOf (LL κ) (SS' κ) ((32 * 0 + 3 * q).fmod 384)) (dueOf (LL κ) (SS' κ) ((32 * 8 + 3 * q).fmod 384)) (dueOf (LL κ) (SS' κ) ((32 * 4 + 3 * q).fmod 384)) (q * 2 ^ 23) (LL κ * 2 ^ 28) ((2 ^ 30 : Int).fdiv (SS' κ)))
noncomputable def q8 (k : Nat) : Bool := (List.range 8).all fun i => qOk ((8 * k + i : Nat) : Int)
theorem q_ok0 : q8 0 = true := by decide +kernel
theorem q_ok1 : q8 1 = true := by decide +kernel
theorem q_ok2 : q8 2 = true := by decide +kernel
theorem q_ok3 : q8 3 = true := by decide +kernel
theorem q_ok4 : q8 4 = true := by decide +kernel
theorem q_ok5 : q8 5 = true := by decide +kernel
theorem q_ok6 : q8 6 = true := by decide +kernel
theorem q_ok7 : q8 7 = true := by decide +kernel
theorem q_ok8 : q8 8 = true := by decide +kernel
theorem q_ok9 : q8 9 = true := by decide +kernel
theorem q_ok10 : q8 10 = true := by decide +kernel
theorem q_ok11 : q8 11 = true := by decide +kernel
theorem q_ok12 : q8 12 = true := by decide +kernel
theorem q_ok13 : q8 13 = true := by decide +kernel
theorem q_ok14 : q8 14 = true := by decide +kernel
theorem q_ok15 : q8 15 = true := by decide +kernel
theorem q_oks : ∀ k ∈ [0, 1, 2, 3, 4, 5, 6, 7, 8, 9, 10, 11, 12, 13, 14, 15], q8 k = true :=
  List.forall_mem_cons.mpr ⟨q_ok0, List.forall_mem_cons.mpr ⟨q_ok1, List.forall_mem_cons.mpr ⟨q_ok2, List.forall_mem_cons.mpr ⟨q_ok3, List.forall_mem_cons.mpr ⟨q_ok4, List.forall_mem_cons.mpr ⟨q_ok5, List.forall_mem_cons.mpr ⟨q_ok6, List.forall_mem_cons.mpr ⟨q_ok7, List.forall_mem_cons.mpr ⟨q_ok8, List.forall_mem_cons.mpr ⟨q_ok9, List.forall_mem_cons.mpr ⟨q_ok10, List.forall_mem_cons.mpr ⟨q_ok11, List.forall_mem_cons.mpr ⟨q_ok12, List.forall_mem_cons.mpr ⟨q_ok13, List.forall_mem_cons.mpr ⟨q_ok14, List.forall_mem_cons.mpr ⟨q_ok15, List.forall_mem_nil _⟩⟩⟩⟩⟩⟩⟩⟩⟩⟩⟩⟩⟩⟩⟩⟩
theorem q_all {n : Nat} (h : n < 128) : qOk n = true := by
  have h2 := List.all_eq_true.mp (q_oks (n / 8) (List.mem_range.mpr (Nat.div_lt_of_lt_mul (n := 8) (k := 16) h))) (n % 8) (List.mem_range.mpr (Nat.mod_lt _ (by decide)))
  rwa [Nat.div_add_mod] at h2
theorem fm3 (a p : Int) : (a + 3 * p).fmod 384 = (a + 3 * p.fmod 128).fmod 384 := by
  have h := Int.fmod_add_mul_fdiv p 128
  rw [show a + 3 * p = a + 3 * p.fmod 128 + 384 * p.fdiv 128 by omega, Int.add_mul_fmod_self_left]
theorem kind_lim : ∀ n < 6, ((SS' (n : Nat) == 0) = false ∧ (minI (LL (n : Nat)) (4 - LL (n : Nat))).natAbs < 2 ^ 63) ∧ SS' (n : Nat) ≠ 0 ∧ (SS' (n : Nat)).natAbs < 1073741824 := by decide +kernel
theorem rOk_of {x n} (h : rOk x n = true) : finF (Float64.mul x p30) = true ∧ rndF (Float64.mul x p30) = n := by
  rw [q30_eq]
  simpa only [rOk, fz_eq, Bool.and_eq_true, beq_iff_eq] using h
theorem rgb_of {r g b : UInt64} {H L S : Int} (h : rgbK r g b H L S = true) : ∃ t, rgbF r g b = some t ∧ rOk t.2.1 L = true ∧ rOk t.2.2 S = true ∧ finF (Float64.mul t.1 p30) = true ∧ (rndF (Float64.mul t.1 p30)).fmod (2 ^ 30) = H := by
  simp only [rgbK, fz_eq, Bool.and_eq_true, Bool.not_eq_true', hueK_eq, beq_iff_eq] at h
  obtain ⟨E1, E2, E3, F4, F5, F6, R6⟩ := h
  rw [← q30_eq] at F6 R6
  refine ⟨(hueF r g b (maxF (maxF r g) b) (minF (minF r g) b), _, _), ?_, F4, F5, F6, R6⟩
  unfold rgbF
  simp only [E1, E2, E3, Bool.false_eq_true, if_false, Bool.or_false]
theorem light_ok {ℓ : L} (hmax : ∀ a b, FN ℓ "max" [.int a, .int b] (.int (maxI a b))) (hmin : ∀ a b, FN ℓ "min" [.int a, .int b] (.int (minI a b))) (hmin3 : ∀ a b c, FN ℓ "min" [.int a, .int b, .int c] (.int (minI (minI a b) c)))
    (hls : ∀ a b c, FN ℓ "hls_to_rgb" [.flt a, .flt b, .flt c] (tri (hlsF a b c))) (hrgb : ∀ r g b t, rgbF r g b = some t → FN ℓ "rgb_to_hls" [.flt r, .flt g, .flt b] (tri t))
    (hrnd : ∀ x, finF x = true → FN ℓ "round" [.flt x] (.int (rndF x))) {p κ : Int} (h0 : 0 ≤ κ) (h1 : κ < 6) :
    ∃ ρ', XS ℓ (cxOf (nth 21)) [("place", .fz (.int p)), ("kind", .fz (.int κ))] (bodyOf (nth 21)) (ρ', .ret (.int (p.fmod 128 * 2 ^ 23))) := by
  obtain ⟨n, rfl⟩ := Int.eq_ofNat_of_zero_le h0
  have hn := Int.ofNat_lt.mp h1
  have hm : n ∈ List.range 6 := List.mem_range.mpr hn
  obtain ⟨m, hq⟩ := Int.eq_ofNat_of_zero_le (Int.fmod_nonneg_of_pos p (by decide : (0 : Int) < 128))
  have Q := q_all (Int.ofNat_lt.mp (hq ▸ Int.fmod_lt_of_pos p (by decide : (0 : Int) < 128)))
  rw [← hq] at Q
  have K := List.all_eq_true.mp kinds_ok n hm
  obtain ⟨⟨L1, L2⟩, L3, L4⟩ := kind_lim n hn
  unfold qOk at Q
  simp only [fz_eq, Bool.and_eq_true] at Q
  obtain ⟨Q0, Q⟩ := Q
  have Q := List.all_eq_true.mp Q n hm
  generalize ((n : Nat) : Int) = κ at *
  unfold kindOk at K
  simp only [fz_eq, Bool.and_eq_true, Bool.not_eq_true', beq_iff_eq] at K Q0
  obtain ⟨K1, K2, K3, K4, K5, K6⟩ := K
  unfold kOk at Q
  rw [← K6] at Q
  simp only [vKK_eq, Bool.and_eq_true] at Q
  rw [← K5, ← K4] at Q
  have hl := hls (divII (p.fmod 128) 128) (divII (LL κ) 4) (divII 1 (SS' κ))
  unfold hlsF at hl
  rw [K1] at hl
  simp only [Bool.false_eq_true, if_false] at hl
  have vg : ∀ a b c, vF a b c = vG a b (Float64.divmod c oneF).snd := fun _ _ _ => rfl
  rw [vg, vg, vg] at hl
  revert hl Q
  generalize vG _ _ (Float64.divmod (Float64.add (divII (p.fmod 128) 128) c13) oneF).snd = r
  generalize vG _ _ (Float64.divmod (divII (p.fmod 128) 128) oneF).snd = g
  generalize vG _ _ (Float64.divmod (Float64.sub (divII (p.fmod 128) 128) c13) oneF).snd = b
  intro Q hl
  obtain ⟨Q1, Q2, Q3, Q4⟩ := Q
  obtain ⟨t, T1, T2, T3, T4, T5⟩ := rgb_of Q4
  obtain ⟨F1, R1⟩ := rOk_of Q1
  obtain ⟨F2, R2⟩ := rOk_of Q2
  obtain ⟨F3, R3⟩ := rOk_of Q3
  obtain ⟨G2, S2⟩ := rOk_of T2
  obtain ⟨G3, S3⟩ := rOk_of T3
  have hlr := light_run (ℓ := ℓ) hmax hmin hmin3 (p := p) (κ := κ) (q := p.fmod 128) (L := LL κ) (S := SS' κ) (bin_mod (by decide)) (bin_fdiv (by decide) (by decide)) bin_addI bin_addI (bin_mod (by decide)) (bin_mod (by decide)) (bin_mod (by decide)) (bin_mod (by decide))
    (bin_divI (by decide) Q0) (bin_divI (by decide) K2) (bin_divI L1 K3)
    hl (hrgb _ _ _ _ T1) (hrnd _ F1) (hrnd _ F2) (hrnd _ F3) (hrnd _ T4) (hrnd _ G2) (hrnd _ G3) L2 L3 L4
    (cmp_neR (by rw [R1, R2, R3, fm3 (32 * 0) p, fm3 (32 * 8) p, fm3 (32 * 4) p]) (DA.list (n := 0) (.cons .int (.cons .int (.cons .int .nil)))) (by decide))
    (cmp_eqR (by rw [T5, S2, S3]) (DA.list (n := 0) (.cons .int (.cons .int (.cons .int .nil)))) (by decide))
  rw [T5] at hlr
  exact hlr
theorem r15 {ℓ : L} {x : Str} (hi : GC ℓ "isinstance" (.prim (.builtin "isinstance"))) (hs : GC ℓ "str" (.prim (.type "str"))) : SS ℓ (cxOf (nth 15)) [("tag", .fz (.str x))] (stm 15 0) (ρ15 x, .next) := by
  conv in (stm 15 0) => whnf
  walk_at "j"
theorem t15 {ℓ : L} {x : Str} (hx : PyData.strOk x = true) (h : (x == ("{*}*" : Str)) = false) : TV ℓ (cxOf (nth 15)) (ρ15 x) (tgtOf (stm 15 1)) false := by
  rw [← h]
  conv in (tgtOf _) => whnf
  walk_at "j"
theorem lo15 {ℓ : L} {x : Str} (hlen : ∀ s, FN ℓ "len" [.str s] (.int (s.length : Int))) (hsl : ∀ n, FN ℓ "slice" [.int n, .none] (.sl (some n) none)) (hx : PyData.strOk x = true) (hx3 : PyData.strOk (Txt.slice x none (some 3)) = true) (h1 : (x == ("{}*" : Str)) = false) (h2 : (Txt.slice x none (some 3) == ("{*}" : Str)) = true) :
    DR ℓ (cxOf (nth 15)) (selD dLo) [("tag", .fz (.str (Txt.slice x (some 3) none))), ("_isinstance", .fz (.prim (.builtin "isinstance"))), ("_str", .fz (.prim (.type "str"))), ("suffix", .fz (.str (Txt.slice x (some 2) none))), ("no_ns", .fz (.sl (some (-((Txt.slice x (some 2) none).length : Int))) none))] (ρ15 x) (els 1) := by
  conv in (els 1) => whnf
  refine .ifc (by walk_at "j") h1 ?_
  refine .ifc (by walk_at "j") h2 ?_
  refine .stm (by walk_at "j") (.stm (by walk_at "j") (.stm (by walk_at "j") ?_))
  conv in (selD dLo) => whnf
  exact .here
theorem hi15 {ℓ : L} {x : Str} (hlen : ∀ s, FN ℓ "len" [.str s] (.int (s.length : Int))) (hsl : ∀ n, FN ℓ "slice" [.none, .int n] (.sl none (some n))) (hx : PyData.strOk x = true) (hx3 : PyData.strOk (Txt.slice x none (some 3)) = true) (hx4 : PyData.strOk (Txt.slice x (some (-2)) none) = true) (h1 : (x == ("{}*" : Str)) = false) (h2 : (Txt.slice x none (some 3) == ("{*}" : Str)) = false) (h3 : (Txt.slice x (some (-2)) none == ("}*" : Str)) = true) :
    DR ℓ (cxOf (nth 15)) (selD dHi) [("tag", .fz (.str x)), ("_isinstance", .fz (.prim (.builtin "isinstance"))), ("_str", .fz (.prim (.type "str"))), ("ns", .fz (.str (Txt.slice x none (some (-1))))), ("ns_only", .fz (.sl none (some ((Txt.slice x none (some (-1))).length : Int))))] (ρ15 x) (els 1) := by
  conv in (els 1) => whnf
  refine .ifc (by walk_at "j") h1 ?_
  refine .ifc (by walk_at "j") h2 ?_
  refine .ifc (by walk_at "j") h3 ?_
  refine .stm (by walk_at "j") (.stm (by walk_at "j") ?_)
  conv in (selD dHi) => whnf
  exact .here
theorem sel_bind {d : Stmt} (h : parOf d = parOf dLo ∨ parOf d = parOf dHi) {fd : FuncData} (h0 : fd.params = parOf d) (h1 : fd.defaults = .none) (h2 : fd.kwdefaults = .none) (a b : Value) : bindArgs fd ⟨[a, b], []⟩ = pure [(("context" : Str), a), ("result", b)] := by
  obtain ⟨x1, x2, x3, x4, x5, x6, x7, x8, x9, x10, x11, x12, x13, x14, x15⟩ := fd
  simp only at h0 h1 h2
  subst h1; subst h2; subst h0
  rcases h with h | h <;> rw [h] <;> kernel_rfl
theorem lo_def : SelDef (parOf dLo) (bodyOf dLo) (scopeOf dLo) := ⟨by decide +kernel, by decide +kernel, fun env => by kernel_rfl, by decide +kernel, by decide +kernel, by decide +kernel, fun fd => sel_bind (.inl rfl), by decide +kernel, by decide +kernel⟩
theorem hi_def : SelDef (parOf dHi) (bodyOf dHi) (scopeOf dHi) := ⟨by decide +kernel, by decide +kernel, fun env => by kernel_rfl, by decide +kernel, by decide +kernel, by decide +kernel, fun fd => sel_bind (.inr rfl), by decide +kernel, by decide +kernel⟩
theorem cap_ok {cr ρ' : Ro} {d : Stmt} (h : cr.all (fun p => p.1 != ("select" : Str) && ((scopeOf d).names.lookup p.1 == some .free) && isFz p.2) = true) (h2 : cr.map (fun p => ρ'.lookup p.1) = cr.map fun p => some p.2) : ∀ n sl, cr.lookup n = some sl → n ≠ ("select" : Str) ∧ ρ'.lookup n = some sl ∧ (∃ av, sl = .fz av) ∧ (scopeOf d).names.lookup n = some .free := fun n sl e => by
  have hm := lookup_mem e
  have h := List.all_eq_true.mp h _ hm
  simp only [Bool.and_eq_true, bne_iff_ne, beq_iff_eq] at h
  refine ⟨h.1.1, List.map_inj_left.mp h2 _ hm, ?_, h.1.2⟩
  cases sl with
  | fz a => exact ⟨a, rfl⟩
  | own => cases h.2
section
variable {l : L} {fa fI c : Addr} {fd : FuncData} {y : Str} {ts : List AV}
/-- what _prepare_tag needs of the top -/
structure PrepH (l : L) (fa fI c : Addr) (fd : FuncData) : Prop where
  C : ClsIs l.h fI
  D : DefHead l.h c
  lim : l.h.NoLimit
  F : FnIs l.h fa fd (bodyOf (nth 15)) ["tag"] false
  sc : fd.scope = scopeOf (nth 15)
  code : fd.code = .ref c
  qual : fd.qualname = ("_prepare_tag" : Str)
  g : GlobIs l.h "_prepare_tag" (.ref fa)
  i : GC l "isinstance" (.prim (.builtin "isinstance"))
  s : GC l "str" (.prim (.type "str"))
  len : ∀ s, FN l "len" [.str s] (.int (s.length : Int))
  lo : ∀ n, FN l "slice" [.int n, .none] (.sl (some n) none)
  hi : ∀ n, FN l "slice" [.none, .int n] (.sl none (some n))
theorem PrepH.cx (H : PrepH l fa fI c fd) : fnCx fd = cxOf (nth 15) := by unfold cxOf; rw [← H.sc]
theorem PrepH.go {d : Stmt} {x : Str} {ys : List AV} {cr ρ' ρ2 : Ro} (H : PrepH l fa fI c fd) (hx : PyData.strOk x = true) (h1 : (x == ("{*}*" : Str)) = false) (SD : SelDef (parOf d) (bodyOf d) (scopeOf d)) (r1 : DR l (cxOf (nth 15)) (selD d) ρ' (ρ15 x) (els 1))
    (g5 : ((scopeOf d).names.all fun x => x.2 != .free || (scopeOf (nth 15)).names.contains (x.1, .cell)) = true) (hcr : ∀ n sl, cr.lookup n = some sl → n ≠ ("select" : Str) ∧ ρ'.lookup n = some sl ∧ (∃ av, sl = .fz av) ∧ (scopeOf d).names.lookup n = some .free)
    (hrun : Gn l (cxOf d) (selRo (ts.map .thing) cr) (execs (bodyOf d)) ρ2 ys) : SLm l x (ts.map .thing) ys := by
  obtain ⟨o, ho, hd⟩ := H.F.obj
  refine .mk H.g (.inr (.inr ⟨fa, o, fd, rfl, H.F.ta, ho, hd⟩)) hrun fun A s O v0 g hv => ?_
  obtain ⟨ip, rp, rpos, hb⟩ := body15
  have F := H.F
  rw [hb] at F
  refine prep_ok H.D SD H.lim F H.code H.qual (by rw [H.cx]; decide +kernel) (by rw [H.cx]; exact r15 H.i H.s) (by rw [H.cx]; exact t15 hx h1) (by rw [H.cx]; exact r1) (fun n hn => ?_) hcr g hv
  have := List.all_eq_true.mp g5 _ hn
  rw [H.sc]
  simpa using this
theorem sel_lo (H : PrepH l fa fI c fd) (hy : y ∈ signL) (ht : ts.all tagB = true) : SLm l (xLo y) (ts.map .thing) ((ts.filter (hLo y)).map .thing) := by
  have hc := List.all_eq_true.mp (show signL.all (fun y => PyData.strOk (xLo y) && PyData.strOk (Txt.slice (xLo y) none (some 3)) && !(xLo y == ("{*}*" : Str)) && !(xLo y == ("{}*" : Str)) && (Txt.slice (xLo y) none (some 3) == ("{*}" : Str)) && (Txt.slice (xLo y) (some 3) none == y) && (Txt.slice (xLo y) (some 2) none == sLo y) && ((sLo y).length == y.length + 1)) = true by decide +kernel) y hy
  simp only [Bool.and_eq_true, Bool.not_eq_true', beq_iff_eq] at hc
  obtain ⟨⟨⟨⟨⟨⟨⟨a1, a2⟩, a3⟩, a4⟩, a5⟩, a6⟩, a7⟩, a8⟩ := hc
  obtain ⟨ρ', h⟩ := lo_run H.C hy ht
  have r := lo15 H.len H.lo a1 a2 a4 (beq_iff_eq.mpr a5)
  rw [a6, a7, a8] at r
  exact H.go a1 a3 lo_def r (by decide +kernel) (cap_ok (by kernel_rfl) (by kernel_rfl)) h
theorem sel_hi (H : PrepH l fa fI c fd) (hy : y ∈ signL) (ht : ts.all tagB = true) : SLm l (xHi y) (ts.map .thing) ((ts.filter (hHi y)).map .thing) := by
  have hc := List.all_eq_true.mp (show signL.all (fun y => PyData.strOk (xHi y) && PyData.strOk (Txt.slice (xHi y) none (some 3)) && PyData.strOk (Txt.slice (xHi y) (some (-2)) none) && !(xHi y == ("{*}*" : Str)) && !(xHi y == ("{}*" : Str)) && !(Txt.slice (xHi y) none (some 3) == ("{*}" : Str)) && (Txt.slice (xHi y) (some (-2)) none == ("}*" : Str)) && (Txt.slice (xHi y) none (some (-1)) == sHi y) && ((sHi y).length == y.length + 2)) = true by decide +kernel) y hy
  simp only [Bool.and_eq_true, Bool.not_eq_true', beq_iff_eq] at hc
  obtain ⟨⟨⟨⟨⟨⟨⟨⟨a1, a2⟩, a0⟩, a3⟩, a4⟩, a5⟩, a6⟩, a7⟩, a8⟩ := hc
  obtain ⟨ρ', h⟩ := hi_run H.C hy ht
  have r := hi15 H.len H.hi a1 a2 a0 a4 a5 (beq_iff_eq.mpr a6)
  rw [a7, a8] at r
  exact H.go a1 a3 hi_def r (by decide +kernel) (cap_ok (by kernel_rfl) (by kernel_rfl)) h
end
open PySem.Sre PySem.Builtin.Re PySem.Builtin
noncomputable def cd : Array Nat := #[14, 4, 0, 1, 1, 6, 1, 16, 46, 1]
noncomputable def bol (t : Array Nat) (s : Nat) : Bool := s == 0 || t.getD (s - 1) 0 == 10
noncomputable def fr0 (s : Nat) (first : Bool) : Sre.Frame := { wait := .nextStart, pc := 5, pos := s, outermost := first }
noncomputable def mA (t : Array Nat) (lim s : Nat) (first : Bool) (seen : Sre.Seen) : M :=
  { code := cd, text := t, lim, start := s, lastStart := lim, pc := 5, pos := s, handed := s, outermost := first, marks := #[], frames := [fr0 s first], weight := 1, seen }
noncomputable def mN (t : Array Nat) (lim s pc : Nat) (first : Bool) (seen : Sre.Seen) : M := { mA t lim s first seen with pc, answer := some false }
noncomputable def mL (t : Array Nat) (lim s : Nat) (first : Bool) (seen : Sre.Seen) : M := { mA t lim s first seen with pc := 7 }
noncomputable def mS (t : Array Nat) (lim s : Nat) (first : Bool) (seen : Sre.Seen) : M := { mA t lim s first seen with pc := 9, pos := s + 1 }
noncomputable def mY (t : Array Nat) (lim s : Nat) (first : Bool) (seen : Sre.Seen) : M := { mA t lim s first seen with pc := 9, pos := s + 1, handed := s + 1, answer := some true }
section
variable {t : Array Nat} {lim s pc : Nat} {first : Bool} {seen : Sre.Seen}
theorem st_at : (mA t lim s first seen).step = if bol t s then mL t lim s first ((seen.add 6).add 44) else mN t lim s 5 first ((seen.add 6).add 44) := rfl
theorem st_litN (h : lim ≤ s) : (mL t lim s first seen).step = mN t lim s 7 first (seen.add 16) := by
  show (if s ≥ lim then _ else _) = _
  rw [if_pos h]; rfl
theorem st_litF (h : ¬ lim ≤ s) (hc : (t.getD s 0 == 46) = false) : (mL t lim s first seen).step = mN t lim s 7 first (seen.add 16) := by
  show (if s ≥ lim then _ else match (Except.ok (t.getD s 0 == 46, seen.add 16) : Except String (Bool × Sre.Seen)) with | .error why => _ | .ok (false, seen) => _ | .ok (true, seen) => _) = _
  rw [if_neg h, hc]; rfl
theorem st_litT (h : ¬ lim ≤ s) (hc : (t.getD s 0 == 46) = true) : (mL t lim s first seen).step = mS t lim s first (seen.add 16) := by
  show (if s ≥ lim then _ else match (Except.ok (t.getD s 0 == 46, seen.add 16) : Except String (Bool × Sre.Seen)) with | .error why => _ | .ok (false, seen) => _ | .ok (true, seen) => _) = _
  rw [if_neg h, hc]; rfl
theorem st_suc : (mS t lim s first seen).step = mY t lim s first (seen.add 1) := by
  show (if first && ((false && _) || (false && _)) then _ else _) = _
  rw [Bool.false_and, Bool.false_and, Bool.or_false, Bool.and_false]
  rfl
theorem st_yes : ∃ m, (mY t lim s first seen).step.step = m ∧ (mY t lim s first seen).step.outcome = none ∧ m.outcome = some .matched ∧ m.start = s ∧ m.handed = s + 1 := ⟨_, rfl, rfl, rfl, rfl, rfl⟩
theorem st_next (h : s < lim) : (mN t lim s pc first seen).step = mA t lim (s + 1) false seen := by
  show (if s < lim then _ else _) = _
  rw [if_pos h]; rfl
theorem st_end (h : ¬ s < lim) : ∃ m, (mN t lim s pc first seen).step.step = m ∧ (mN t lim s pc first seen).step.outcome = none ∧ m.outcome = some .failed := by
  have : (mN t lim s pc first seen).step = (if s < lim then mA t lim (s + 1) false seen else { (mN t lim s pc first seen) with answer := some false, frames := [], weight := 0, pc := 5, pos := s, outermost := first }) := rfl
  rw [this, if_neg h]
  exact ⟨_, rfl, rfl, rfl⟩
end
/-- the first dot at a line's start -/
noncomputable def hunt (t : Array Nat) : Nat → Nat → Option Nat
  | 0, _ => none
  | k + 1, s => if bol t s && t.getD s 0 == 46 then some s else hunt t k (s + 1)
theorem hunt_s {t : Array Nat} {k s : Nat} : hunt t (k + 1) s = if bol t s && t.getD s 0 == 46 then some s else hunt t k (s + 1) := rfl
noncomputable def Found (r : Option Nat) (m : M) : Prop := match r with
  | some q => m.outcome = some .matched ∧ m.start = q ∧ m.handed = q + 1
  | none => m.outcome = some .failed
theorem run_step {m : M} {n : Nat} (h : m.outcome = none) : M.runFor (n + 1) m = M.runFor n m.step := by
  show (if m.outcome.isSome then m else _) = _
  rw [h]; rfl
theorem run_done {m : M} {n : Nat} (h : m.outcome.isSome = true) : M.runFor n m = m := by
  cases n with
  | zero => rfl
  | succ n => show (if m.outcome.isSome then m else _) = _; rw [if_pos h]
theorem hunt_run {t : Array Nat} {lim : Nat} : ∀ (k s : Nat) (first : Bool) (seen : Sre.Seen), s + k = lim → ∃ i m, i ≤ 3 * k + 5 ∧ M.runFor i (mA t lim s first seen) = m ∧ Found (hunt t k s) m := by
  intro k
  induction k with
  | zero =>
    intro s first seen hs
    have hs' : s = lim := by lia
    subst hs'
    have hn : ¬ s < s := Nat.lt_irrefl _
    cases hb : bol t s
    · obtain ⟨m, e1, e2, e3⟩ := st_end (t := t) (pc := 5) (first := first) (seen := (seen.add 6).add 44) hn
      refine ⟨3, m, by lia, ?_, e3⟩
      rw [run_step rfl, st_at, hb]
      rw [if_neg (by decide), run_step rfl, run_step e2, e1]; rfl
    · obtain ⟨m, e1, e2, e3⟩ := st_end (t := t) (pc := 7) (first := first) (seen := ((seen.add 6).add 44).add 16) hn
      refine ⟨4, m, by lia, ?_, e3⟩
      rw [run_step rfl, st_at, hb, if_pos rfl, run_step rfl, st_litN (Nat.le_refl _), run_step rfl, run_step e2, e1]; rfl
  | succ k ih =>
    intro s first seen hs
    have hlt : s < lim := by lia
    have hnl : ¬ lim ≤ s := by lia
    cases hb : bol t s
    · obtain ⟨i, m, h1, h2, h3⟩ := ih (s + 1) false ((seen.add 6).add 44) (by lia)
      refine ⟨i + 2, m, by lia, ?_, ?_⟩
      · rw [run_step rfl, st_at, hb, if_neg (by decide), run_step rfl, st_next hlt]; exact h2
      · rw [hunt_s, hb]; exact h3
    · cases hc : (t.getD s 0 == 46)
      · obtain ⟨i, m, h1, h2, h3⟩ := ih (s + 1) false (((seen.add 6).add 44).add 16) (by lia)
        refine ⟨i + 3, m, by lia, ?_, ?_⟩
        · rw [run_step rfl, st_at, hb, if_pos rfl, run_step rfl, st_litF hnl hc, run_step rfl, st_next hlt]; exact h2
        · rw [hunt_s, hb, hc]; exact h3
      · obtain ⟨m, e1, e2, e3⟩ := st_yes (t := t) (lim := lim) (s := s) (first := first) (seen := (((seen.add 6).add 44).add 16).add 1)
        refine ⟨5, m, by lia, ?_, ?_⟩
        · rw [run_step rfl, st_at, hb, if_pos rfl, run_step rfl, st_litT hnl hc, run_step rfl, st_suc, run_step rfl, run_step e2, e1]; rfl
        · rw [hunt_s, hb, hc]; exact e3
theorem search_run {t : Array Nat} {lim s : Nat} (h : s ≤ lim) : ∃ i m, i ≤ 3 * (lim - s) + 5 ∧ M.runFor i (Sre.forSearch cd t 0 s lim false) = m ∧ Found (hunt t (lim - s) s) m := by
  by_cases hlt : s < lim
  · have : Sre.forSearch cd t 0 s lim false = mA t lim s true (({} : Sre.Seen).add 14) := by
      have hc : (decide (s > lim) || decide (lim - s < 1)) = false := by
        rw [Bool.or_eq_false_iff]; constructor <;> (rw [decide_eq_false_iff_not]; lia)
      show (if (decide (s > lim) || decide (lim - s < 1)) = true then _ else _) = _
      rw [hc]; rfl
    rw [this]
    exact hunt_run (lim - s) s true _ (by lia)
  · have hs : s = lim := by lia
    subst hs
    rw [Nat.sub_self]
    refine ⟨1, _, by lia, rfl, ?_⟩
    show M.outcome _ = _
    have hc : (decide (s > s) || decide (s - s < 1)) = true := by
      rw [Bool.or_eq_true]; right; rw [decide_eq_true_eq]; lia
    have : Sre.forSearch cd t 0 s s false = (if (decide (s > s) || decide (s - s < 1)) = true then M.say { (mA t s s true (({} : Sre.Seen).add 14)) with lastStart := 0, frames := [], weight := 0 } false else mA t s s true (({} : Sre.Seen).add 14)) := by
      show (if (decide (s > s) || decide (s - s < 1)) = true then _ else _) = _
      rw [hc]; rfl
    rw [this, hc]
    rfl
theorem run_add {m : M} : ∀ (a b : Nat), M.runFor (a + b) m = M.runFor b (M.runFor a m) := by
  intro a
  induction a generalizing m with
  | zero => intro b; rw [Nat.zero_add]; rfl
  | succ a ih =>
    intro b
    cases h : m.outcome with
    | none => rw [show a + 1 + b = (a + b) + 1 by lia, run_step h, run_step h, ih]
    | some o =>
      have hs : m.outcome.isSome = true := by rw [h]; rfl
      rw [run_done (n := a + 1 + b) hs, run_done (n := a + 1) hs, run_done hs]
section
variable {Mo : Model} {A : Around} {E : Value → Shared → Prop} {s : Shared}
theorem drive_ok {Q : M → Shared → Prop} : ∀ (n : Nat) {i : Nat} {m m' : M}, M.runFor i m = m' → m'.outcome.isSome = true → i ≤ 4 * n → 0 < n → Q m' s → wpAny Mo A (reDrive n m) Q E s := by
  intro n
  induction n with
  | zero => intro i m m' _ _ _ h; exact absurd h (Nat.lt_irrefl _)
  | succ n ih =>
    intro i m m' h ho hi _ hq
    show wpAny Mo A (if (M.runFor 4 m).outcome.isSome then pure (M.runFor 4 m) else (do Sem.rule "sre.turn" fun _ => reDrive n (M.runFor 4 m))) Q E s
    by_cases hs : (M.runFor 4 m).outcome.isSome = true
    · have : M.runFor 4 m = m' := by
        rcases Nat.le_total i 4 with q | q
        · rw [show (4 : Nat) = i + (4 - i) by lia, run_add, h, run_done ho]
        · rw [← h, show i = 4 + (i - 4) by lia, run_add, run_done hs]
      rw [if_pos hs, this]
      exact wpAny_pure hq
    · rw [if_neg hs]
      have hi4 : 4 < i := by
        refine Nat.lt_of_not_le fun q => hs ?_
        rw [show (4 : Nat) = i + (4 - i) by lia, run_add, h, run_done ho]; exact ho
      have h' : M.runFor (i - 4) (M.runFor 4 m) = m' := by rw [← run_add, show 4 + (i - 4) = i by lia]; exact h
      exact fun Γ p hΓ => ih h' ho (by lia) (by lia) hq Γ p hΓ
theorem toEnd_ok {Q : Option M → Shared → Prop} {i : Nat} {m m' : M} {r : Option Nat} (h : M.runFor i m = m') (hf : Found r m') (hi : i ≤ 4 * 2 ^ 64) (hq : Q (match r with | some _ => some m' | none => none) s) : wpAny Mo A (reRunToEnd m) Q E s := by
  unfold reRunToEnd
  have ho : m'.outcome.isSome = true := by
    unfold Found at hf
    cases r with
    | some q => rw [hf.1]; rfl
    | none => rw [hf]; rfl
  refine wpAny_bind (drive_ok (2 ^ 64) h ho hi (by decide) ?_)
  refine wpAny_bind ?_
  have key : ∀ l : List Nat, wpAny Mo A (forIn l PUnit.unit fun i (_ : PUnit) => (do
      if m'.seen.has i = true then do
        rule (Sre.names.getD i "")
        pure (ForInStep.yield PUnit.unit)
      else pure (ForInStep.yield PUnit.unit) : Sem (ForInStep PUnit))) (fun _ s' => s' = s) NoE s := by
    intro l
    induction l with
    | nil => exact wpAny_pure rfl
    | cons x r ih =>
      rw [List.forIn_cons]
      refine wpAny_bind ?_
      split
      · exact wpAny_bind (wpAny_rule (wpAny_pure ih))
      · exact wpAny_pure ih
  refine wpAny_mono (key _) (fun _ s' e => ?_) fun _ _ z => z.elim
  subst e
  unfold Found at hf
  cases r with
  | some q => rw [hf.1]; exact wpAny_pure hq
  | none => rw [hf]; exact wpAny_pure hq
end
structure PatIs (h : Heap) : Prop where
  pat : ∃ src t1 t2, h.get? 36 = some { cls := .type "re.Pattern", data := .fields #[src, .int 8 t1, .int 0 t2, .none, .none, .ref 35, .int 1 0] }
  code : h.get? 35 = some { cls := .type "tuple", data := .seq #[.int 14 0, .int 4 0, .int 0 0, .int 1 0, .int 1 0, .int 6 0, .int 1 0, .int 16 0, .int 46 0, .int 1 0] }
noncomputable def txt (b : Array UInt8) : Array Nat := b.map (·.toNat)
noncomputable def tgt (b : Array UInt8) (t : Tok) : ReTarget := { pattern := .ref 36, string := .bytes b t, code := cd, text := txt b, kind := 1, groups := 0, pos := 0, lim := (txt b).size }
section
variable {prog : Program} {w : World} {A : Around} {E : Value → Shared → Prop} {s : Shared}
theorem asStr_bytes {b : Array UInt8} {t : Tok} : asStr? (.bytes b t) = pure none := rfl
theorem text_eq {b : Array UInt8} {t : Tok} : reTextOf (.bytes b t) = pure (txt b, 1) := by
  unfold reTextOf
  rw [KBy.quiet_eq, asStr_bytes]
  rfl
theorem inside_eq {b : Array UInt8} {t : Tok} : reNoCollectionInside (.bytes b t) 1 = pure () := by
  unfold reNoCollectionInside
  rw [KBy.isInstance_eq]
  rfl
theorem literal_eq {b : Array UInt8} {t : Tok} : reLiteralCannotBeTurned (.bytes b t) = pure () := by
  unfold reLiteralCannotBeTurned
  rw [KBy.isInstance_eq, asStr_bytes]
  rfl
theorem whole_ok {b : Array UInt8} {t : Tok} {Q : ReTarget → Shared → Prop} (p : PatIs s.heap) (h : Q (tgt b t) s) : wpAny (model prog w) A (reWholeTarget (.ref 36) (.bytes b t)) Q E s := by
  obtain ⟨⟨src, t1, t2, p1⟩, p2⟩ := p
  unfold reWholeTarget
  rw [text_eq]
  refine wpAny_bind (wpAny_fieldsOf p1 rfl ?_)
  refine wpAny_bind (wpAny_pure ?_)
  show wpAny (model prog w) A (do
    reNoCollectionInside (.bytes b t) 1
    let items ← reRawItems (.ref 35)
    pure { pattern := .ref 36, string := .bytes b t, code := items.map (·.toNat), text := txt b, kind := 1, groups := 0, pos := 0, lim := (txt b).size }) Q E s
  rw [inside_eq]
  refine wpAny_bind (wpAny_pure (wpAny_bind ?_))
  unfold reRawItems seqItems?
  refine wpAny_bind (wpAny_bind (wpAny_load p2 ?_))
  refine wpAny_pure (wpAny_pure (wpAny_pure ?_))
  have e : Array.map (fun x => x.toNat) (Array.map reRawOf ((some (#[.int 14 0, .int 4 0, .int 0 0, .int 1 0, .int 1 0, .int 6 0, .int 1 0, .int 16 0, .int 46 0, .int 1 0] : Array Value)).getD #[])) = cd := by simp [reRawOf, cd]
  rw [e]
  exact h
theorem next_ok {b : Array UInt8} {t : Tok} {k : Nat} {Q : Option M → Shared → Prop} (hk : k ≤ b.size) (hz : b.size ≤ 2 ^ 62) (h : ∀ r m, r = hunt (txt b) (b.size - k) k → Found r m → Q (match r with | some _ => some m | none => none) s) :
    wpAny (model prog w) A (reNextFound (tgt b t) k false) Q E s := by
  have hs : (txt b).size = b.size := by simp [txt]
  obtain ⟨i, m, h1, h2, h3⟩ := search_run (t := txt b) (lim := (txt b).size) (s := k) (by rw [hs]; exact hk)
  rw [hs] at h1 h3
  exact toEnd_ok h2 h3 (by lia) (h _ m rfl h3)
end
open PySem.Builtin PySem.Builtin.Bytes
theorem slot_bytes_join : Slot "bytes" "join" "bytes.join" :=
  .of (owner := "bytes") (n := "join") (by rw [typeLookup_type, builtinLookup_eq_fast]; kernel_rfl) (by decide +kernel) (by decide +kernel) (by decide +kernel)
    (by first | exact .inl (by decide +kernel) | exact .inr (by decide +kernel)) (by rw [isSubtype_type]; kernel_rfl)
theorem entry_bytes_join : entryFor table "bytes.join" = some Builtin.«bytes.join» := entryFor_of_tree (by kernel_rfl)
theorem args_bytes_join (a b : Value) : argsOk "bytes.join" ⟨[a, b], []⟩ := by unfold argsOk; kernel_rfl
section
variable {prog : Program} {w : World} {A : Around} {E : Value → Shared → Prop} {s : Shared}
theorem take_eq {b : Array UInt8} {t : Tok} {id : String} : takeBufferQuiet? id (.bytes b t) 0 = pure (some (b, none)) := by
  unfold takeBufferQuiet? takeBuffer?
  rw [KBy.special_eq KBy.look_buffer, KBy.own_buffer, show ((0 : Int) == fullReadOnly) = false from rfl, KBy.buffer_eq]
  rfl
/-- bytes of a list -/
inductive BytesAre : List Value → List (Array UInt8) → Prop
  | nil : BytesAre [] []
  | cons (b t) {vs bs} : BytesAre vs bs → BytesAre (.bytes b t :: vs) (b :: bs)
theorem BytesAre.len {vs : List Value} {bs : List (Array UInt8)} (h : BytesAre vs bs) : vs.length = bs.length := by
  induction h with
  | nil => rfl
  | cons b t _ ih => exact congrArg (· + 1) ih
theorem BytesAre.get {vs : List Value} {bs : List (Array UInt8)} (h : BytesAre vs bs) : ∀ {i : Nat}, i < vs.length → ∃ b t, vs[i]? = some (.bytes b t) ∧ bs[i]? = some b := by
  induction h with
  | nil => exact fun h => absurd h (Nat.not_lt_zero _)
  | cons b t _ ih => exact fun {i} h => match i, h with
    | 0, _ => ⟨b, t, rfl, rfl⟩
    | i + 1, h => ih (Nat.lt_of_succ_lt_succ h)
theorem BytesAre.app {vs us : List Value} {bs cs : List (Array UInt8)} (h : BytesAre vs bs) (g : BytesAre us cs) : BytesAre (vs ++ us) (bs ++ cs) := by
  induction h with
  | nil => exact g
  | cons b t _ ih => exact .cons b t ih
noncomputable def flatB (bs : List (Array UInt8)) : List UInt8 := bs.flatMap (·.toList)
theorem joined_eq (bs : List (Array UInt8)) : (joined #[] bs).toList = flatB bs := by
  have key : ∀ (bs : List (Array UInt8)) (k : Nat) (out : Array UInt8), ((bs.zipIdx k).foldl (fun out (x : Array UInt8 × Nat) => (if x.2 > 0 then out ++ (#[] : Array UInt8) else out) ++ x.1) out).toList = out.toList ++ flatB bs := fun bs => by
    induction bs with
    | nil => exact fun k out => (List.append_nil _).symm
    | cons b r ih =>
      intro k out
      have e : (if k > 0 then out ++ (#[] : Array UInt8) else out) = out := by
        rw [Array.append_empty, ite_self]
      rw [List.zipIdx_cons, List.foldl_cons, ih, e, Array.toList_append, List.append_assoc]
      rfl
  exact (key bs 0 #[]).trans (List.nil_append _)
theorem sizes_eq : ∀ (bs : List (Array UInt8)) (k : Nat), bs.foldl (fun x1 x2 => x1 + x2.size) k = k + (flatB bs).length
  | [], k => rfl
  | b :: r, k => by
    rw [List.foldl_cons, sizes_eq r, show flatB (b :: r) = b.toList ++ flatB r from rfl, List.length_append, Nat.add_assoc]
    rfl
theorem letGo_ok {taken : List (Value × Option Value)} {keep : List Value} {Q : Unit → Shared → Prop} (ht : ∀ x ∈ taken, x.2 = none) (h : Q () s) : wpAny (model prog w) A (joinLetGo taken keep) Q E s := by
  induction taken with
  | nil => exact wpAny_pure h
  | cons x r ih =>
    obtain ⟨x, u⟩ := x
    cases ht (x, u) (.head _)
    exact wpAny_bind (wpAny_letGo (ih fun y hy => ht y (.tail _ hy)))
theorem wp_ifN {α : Type} {c : Prop} [Decidable c] {x y : Sem α} {Q : α → Shared → Prop} (hc : ¬ c) (h : wpAny (model prog w) A y Q E s) : wpAny (model prog w) A (if c then x else y) Q E s := by rw [if_neg hc]; exact h
theorem wp_ifP {α : Type} {c : Prop} [Decidable c] {x y : Sem α} {Q : α → Shared → Prop} (hc : c) (h : wpAny (model prog w) A x Q E s) : wpAny (model prog w) A (if c then x else y) Q E s := by rw [if_pos hc]; exact h
theorem wp_list {L : Addr} {vs : Array Value} {n : Nat} {Q : Option (Array Value) → Shared → Prop} (h : s.heap.get? L = some { cls := .type "list", data := .seq vs n }) (hq : Q (some vs) s) : wpAny (model prog w) A (seqItems? (.ref L)) Q E s := by
  unfold seqItems?
  exact wpAny_bind (wpAny_load h (wpAny_pure hq))
theorem wp_one {items : Array Value} {f : Value → Sem PySem.Fin} {g : Array Value → Sem PySem.Fin} {Q : PySem.Fin → Shared → Prop} (h1 : ∀ x, items = #[x] → wpAny (model prog w) A (f x) Q E s) (h2 : wpAny (model prog w) A (g items) Q E s) : wpAny (model prog w) A (joinM.match_1 (fun _ => Sem PySem.Fin) items f g) Q E s := by
  obtain ⟨l⟩ := items
  rcases l with _ | ⟨x, _ | ⟨y, l⟩⟩
  · exact h2
  · exact h1 x rfl
  · exact h2
/-- what the join has taken -/
structure Took (bs : List (Array UInt8)) (s s' : Shared) (i : Nat) (rest : List Nat) (st : Array (Array UInt8) × List (Value × Option Value)) : Prop where
  rest : rest = List.range' i (bs.length - i)
  le : i ≤ bs.length
  parts : st.1.toList = bs.take i
  taken : ∀ x ∈ st.2, x.2 = none ∧ x.1.onHeap = false
  same : s' = s
theorem Took.lt {bs s s' i j r st} (h : Took bs s s' i (j :: r) st) : j = i ∧ i < bs.length ∧ r = List.range' (i + 1) (bs.length - (i + 1)) := by
  have e := h.rest
  have hi : i < bs.length := Nat.lt_of_not_le fun q => by
    rw [Nat.sub_eq_zero_of_le q] at e; cases e
  rw [show bs.length - i = (bs.length - (i + 1)) + 1 from (Nat.succ_pred_eq_of_pos (Nat.sub_pos_of_lt hi)).symm, List.range'_succ] at e
  cases e
  exact ⟨rfl, hi, rfl⟩
theorem Took.end_ {bs s s' i st} (h : Took bs s s' i [] st) : st.1.toList = bs := by
  have hi : i = bs.length := Nat.le_antisymm h.le (Nat.le_of_not_lt fun q => by
    have e := h.rest
    rw [show bs.length - i = (bs.length - (i + 1)) + 1 from (Nat.succ_pred_eq_of_pos (Nat.sub_pos_of_lt q)).symm, List.range'_succ] at e
    cases e)
  rw [h.parts, hi, List.take_length]
theorem join_body {t0 : Tok} {L : Addr} {vs : Array Value} {n : Nat} {bs : List (Array UInt8)} {Q : PySem.Fin → Shared → Prop} (h : s.heap.get? L = some { cls := .type "list", data := .seq vs n }) (hb : BytesAre vs.toList bs) (hz : (flatB bs).length ≤ 1000000)
    (hq : ∀ b t tk, b.toList = flatB bs → s.toks ≤ tk → Q (.done (.ret (.bytes b t))) { s with toks := tk }) : wpAny (model prog w) A (Builtin.«bytes.join» ⟨[.bytes #[] t0, .ref L], []⟩) Q E s := by
  have hlen : vs.size = bs.length := by rw [← hb.len, Array.length_toList]
  unfold Builtin.«bytes.join» joinM
  refine wpAny_bind (wpAny_pure ?_)
  show wpAny (model prog w) A (joinItems (.ref L) >>= _) Q E s
  unfold joinItems
  refine wpAny_bind (wpAny_bind (wpAny_typeOf (T := "list") ⟨_, h, rfl⟩ (wpAny_pure (wpAny_bind (wp_list h ?_)))))
  split
  case h_2 hx => exact (hx vs rfl).elim
  case h_1 items' he =>
  cases he
  refine wp_ifP (by decide) (wp_one (fun x e => ?_) ?_)
  · subst e
    cases hb with
    | cons b t hr =>
      cases hr
      exact wpAny_bind (wpAny_typeOf (typeIs_bytes _ b t) (wp_ifP (by decide) (wpAny_bind (wpAny_rule (wpAny_pure (hq b t s.toks (List.append_nil _).symm (Nat.le_refl _)))))))
  · refine wpAny_bind ?_
    rw [Std.Legacy.Range.forIn_eq_forIn_range']
    refine wpAny_forIn_list _ (fun rest st s' => ∃ i, Took bs s s' i rest st) _ (fun j rest st s' hI => ?_) (fun st s' hI => ?_) _ _ ⟨0, ?_, Nat.zero_le _, rfl, fun x hx => (nomatch hx), rfl⟩
    · obtain ⟨i, T⟩ := hI
      obtain ⟨rfl, hi, hr⟩ := T.lt
      cases T.same
      obtain ⟨b, t, e1, e2⟩ := hb.get (i := j) (by rw [Array.length_toList, hlen]; exact hi)
      have e1 : vs.getD j .none = .bytes b t := by rw [Array.getD_eq_getD_getElem?, ← Array.getElem?_toList, e1]; rfl
      have hc : ¬ (Kind.bytes == Kind.bytearray || st.2.any fun x => x.1.onHeap) = true := by
        rw [Bool.or_eq_true, not_or]
        exact ⟨by decide, fun q => (List.any_eq_true.mp q).elim fun x z => Bool.noConfusion ((T.taken x z.1).2.symm.trans z.2)⟩
      refine wpAny_bind (wp_list h ?_)
      refine wp_ifN hc ?_
      rw [e1]
      refine wpAny_bind (wpAny_holding (wpAny_of_eq take_eq (wpAny_bind (wp_list h (wp_ifN (by simp) (wpAny_pure ?_))))))
      refine ⟨j + 1, hr, hi, ?_, fun x hx => ?_, rfl⟩
      · show (st.1.push b).toList = _
        rw [Array.toList_push, T.parts, List.take_add_one, e2]; rfl
      · exact (List.mem_append.mp hx).elim (T.taken x) fun h => by cases List.mem_singleton.mp h; exact ⟨rfl, rfl⟩
    · obtain ⟨i, T⟩ := hI
      have e3 := T.end_
      cases T.same
      have hl : (Array.foldl (fun x1 x2 => x1 + x2.size) ((#[] : Array UInt8).size * (st.1.size - 1)) st.1) ≤ 16777216 := by
        rw [← Array.foldl_toList, e3, sizes_eq, List.size_toArray, List.length_nil, Nat.zero_mul, Nat.zero_add]
        exact Nat.le_trans hz (by decide)
      have hj := joined_eq bs
      rw [← e3] at hj
      have hjz : (joined #[] st.1.toList).size ≤ sizeLine := by
        rw [← Array.length_toList, hj, e3, sizeLine_eq]; exact Nat.le_trans hz (by decide)
      refine wpAny_bind (wpAny_pure (wp_ifN (by rw [KBy.tooLong_not hl]; decide) ?_))
      refine wpAny_bind (wpAny_mkBytes ?_ hjz)
      exact wpAny_bind (wpAny_holding (wpAny_point (wpAny_bind (letGo_ok (fun x hx => (T.taken x hx).1) (wpAny_pure (hq _ _ _ (hj.trans (by rw [e3])) (Nat.le_succ _)))))))
    · rw [← hlen]
      simp only [Std.Legacy.Range.size, Nat.sub_zero, Nat.add_sub_cancel, Nat.div_one]
end
open PySem.Sre PySem.Builtin.Re PySem.Builtin
/-- a dot at each line's start, doubled -/
noncomputable def qpl : Bool → List UInt8 → List UInt8
  | _, [] => []
  | f, c :: r => if f && c == 46 then 46 :: 46 :: qpl false r else c :: qpl (c == 10) r
theorem qpl_c {f : Bool} {c : UInt8} {r : List UInt8} : qpl f (c :: r) = if f && c == 46 then 46 :: 46 :: qpl false r else c :: qpl (c == 10) r := rfl
theorem u8_eq (c : UInt8) (n : Nat) (h : n < 256) : (c.toNat == n) = (c == UInt8.ofNat n) := by
  rw [Bool.eq_iff_iff, beq_iff_eq, beq_iff_eq]
  constructor
  · intro e; rw [← e, UInt8.ofNat_toNat]
  · intro e; rw [e, UInt8.toNat_ofNat']; exact Nat.mod_eq_of_lt h
theorem txt_get {b : Array UInt8} {k : Nat} {c : UInt8} (h : b.toList[k]? = some c) : (txt b).getD k 0 = c.toNat := by
  rw [Array.getElem?_toList] at h
  unfold txt
  rw [Array.getD_eq_getD_getElem?, Array.getElem?_map, h]; rfl
theorem bol_succ {b : Array UInt8} {k : Nat} {c : UInt8} (h : b.toList[k]? = some c) : bol (txt b) (k + 1) = (c == 10) := by
  unfold bol
  rw [show k + 1 - 1 = k by lia, txt_get h, u8_eq c 10 (by decide)]
  simp
theorem hunt_spec {b : Array UInt8} : ∀ (j k : Nat), k + j = b.size → match hunt (txt b) j k with
    | some q => k ≤ q ∧ q < b.size ∧ qpl (bol (txt b) k) (b.toList.drop k) = (b.toList.drop k).take (q - k) ++ [46, 46] ++ qpl false (b.toList.drop (q + 1)) ∧ bol (txt b) (q + 1) = false
    | none => qpl (bol (txt b) k) (b.toList.drop k) = b.toList.drop k := by
  intro j
  induction j with
  | zero =>
    intro k hk
    show qpl _ _ = _
    rw [List.drop_eq_nil_of_le (by rw [Array.length_toList]; lia)]; rfl
  | succ j ih =>
    intro k hk
    have hlt : k < b.toList.length := by rw [Array.length_toList]; lia
    have hc : b.toList[k]? = some b.toList[k] := List.getElem?_eq_getElem hlt
    have hd : b.toList.drop k = b.toList[k] :: b.toList.drop (k + 1) := List.drop_eq_getElem_cons hlt
    generalize b.toList[k] = c at *
    have hg := txt_get hc
    have hb := bol_succ hc
    rw [hunt_s, hg, u8_eq c 46 (by decide)]
    cases hf : (bol (txt b) k && (c == UInt8.ofNat 46)) with
    | true =>
      rw [if_pos rfl]
      show k ≤ k ∧ _
      rw [Bool.and_eq_true] at hf
      have hc46 : c = 46 := eq_of_beq hf.2
      refine ⟨Nat.le_refl _, by rw [← Array.length_toList]; exact hlt, ?_, ?_⟩
      · rw [hd, hf.1, hc46, Nat.sub_self, List.take_zero, qpl_c]
        rfl
      · rw [hb, hc46]; decide
    | false =>
      rw [if_neg (by decide)]
      have h1 := ih (k + 1) (by lia)
      have hq : qpl (bol (txt b) k) (c :: b.toList.drop (k + 1)) = c :: qpl (bol (txt b) (k + 1)) (b.toList.drop (k + 1)) := by
        rw [qpl_c, hb]
        rw [show (bol (txt b) k && c == 46) = false from hf]
        rfl
      split
      · rename_i q hh
        rw [hh] at h1
        obtain ⟨a1, a2, a3, a4⟩ := h1
        refine ⟨Nat.le_of_succ_le a1, a2, ?_, a4⟩
        rw [hd, hq, a3, show q - k = (q - (k + 1)) + 1 from (Nat.succ_pred_eq_of_pos (Nat.sub_pos_of_lt a1)).symm, List.take_succ_cons]
        rfl
      · rename_i hh
        rw [hh] at h1
        rw [hd, hq]
        have h1' : qpl (bol (txt b) (k + 1)) (b.toList.drop (k + 1)) = b.toList.drop (k + 1) := h1
        rw [h1']
theorem slice_txt {b : Array UInt8} {i j : Nat} : (((txt b).extract i j).map (·.toUInt8)).toList = (b.toList.drop i).take (j - i) := by
  unfold txt
  rw [Array.toList_map, Array.toList_extract, Array.toList_map]
  rw [List.extract_eq_take_drop, ← List.map_drop, ← List.map_take, List.map_map]
  have : ((fun x : Nat => x.toUInt8) ∘ fun x : UInt8 => x.toNat) = _root_.id := by
    funext c; simp
  rw [this, List.map_id]
open PySem.Sre PySem.Builtin.Re PySem.Builtin
theorem entry_sub_loop : entryFor table "re.Pattern.sub.loop" = some Builtin.«re.Pattern.sub.loop» := entryFor_of_tree (by kernel_rfl)
theorem plain_sub_loop : plainId "re.Pattern.sub.loop" = true := by decide +kernel
noncomputable abbrev loopArgs (b : Array UInt8) (t t2 : Tok) (L : Addr) (n : Int) (k : Int) : Args := ⟨[.ref 36, .bytes b t, .bytes #[46, 46] t2, .int 0 0, .int 0 0, .int n 0, .int k 0, .int k 0, .bool false, .ref L, .bool false], []⟩
noncomputable abbrev loopCode (b : Array UInt8) (t t2 : Tok) (L : Addr) (n : Int) (k : Int) : Code := .builtin "re.Pattern.sub.loop" (loopArgs b t t2 L n k)
section
variable {prog : Program} {w : World} {A : Around} {E : Value → Shared → Prop} {s : Shared}
theorem call_join {t0 : Tok} {L : Addr} {vs : Array Value} {n : Nat} {bs : List (Array UInt8)} {Q : Value → Shared → Prop} (h : s.heap.get? L = some { cls := .type "list", data := .seq vs n }) (hb : BytesAre vs.toList bs) (hz : (flatB bs).length ≤ 1000000)
    (hq : ∀ b t tk, b.toList = flatB bs → s.toks ≤ tk → Q (.bytes b t) { s with toks := tk }) : wpAny (model prog w) A (call (.builtin "bytes.join") [.bytes #[] t0, .ref L]) Q E s :=
  wpAny_call (codeAny_call_builtin slot_bytes_join.plain entry_bytes_join (slot_bytes_join.check _ _ _ _ _ _ _ _ (typeIs_bytes _ _ _) (args_bytes_join _ _) (join_body h hb hz hq)))
theorem slice_ok {b : Array UInt8} {i j : Nat} {Q : Value → Shared → Prop} (hz : b.size ≤ sizeLine) (h : ∀ c t, c.toList = (b.toList.drop i).take (j - i) → Q (.bytes c t) { s with toks := s.toks + 1 }) : wpAny (model prog w) A (reSlice (txt b) 1 i j) Q E s := by
  show wpAny (model prog w) A (mkBytes (((txt b).extract i j).map (·.toUInt8))) Q E s
  refine wpAny_mkBytes (h _ _ slice_txt) ?_
  rw [← Array.length_toList, slice_txt, List.length_take, List.length_drop]
  exact Nat.le_trans (Nat.min_le_right _ _) (Nat.le_trans (Nat.sub_le _ _) hz)
/-- where the pieces stand -/
structure Acc (L : Addr) (s : Shared) (n : Nat) (ps : List (Array UInt8)) : Prop where
  ta : L ≠ TA
  n36 : L ≠ 36
  n35 : L ≠ 35
  pat : PatIs s.heap
  at_ : ∃ acc c, s.heap.get? L = some { cls := .type "list", data := .seq acc c } ∧ BytesAre acc.toList ps ∧ acc.size ≤ n
theorem PatIs.kp {L : Addr} {s s' : Shared} (p : PatIs s.heap) (k : Kp (fun x => x = L) (fun _ => False) s s') (h1 : L ≠ 36) (h2 : L ≠ 35) : PatIs s'.heap :=
  let ⟨⟨a, b, c, e1⟩, e2⟩ := p
  ⟨⟨a, b, c, k.heap _ _ (by decide) (fun q => h1 q.symm) e1⟩, k.heap _ _ (by decide) (fun q => h2 q.symm) e2⟩
/-- a new piece -/
theorem push_ok {L : Addr} {n : Nat} {ps : List (Array UInt8)} {c : Array UInt8} {t : Tok} {Q : Unit → Shared → Prop} (a : Acc L s n ps) (hn : n ≤ 900000)
    (h : ∀ s', Acc L s' (n + 1) (ps ++ [c]) → Kp (fun x => x = L) (fun _ => False) s s' → Q () s') : wpAny (model prog w) A (updateSeq L (·.push (.bytes c t))) Q E s := by
  obtain ⟨acc, c0, hL, hb, hz⟩ := a.at_
  have h1 : acc.size + 1 ≤ sizeLine := Nat.le_trans (Nat.succ_le_succ (Nat.le_trans hz hn)) (by rw [sizeLine_eq]; decide)
  refine wpAny_updateSeq hL rfl ?_ (Nat.le_of_succ_le h1) (by rw [Array.size_push]; exact Nat.le_succ_of_le h1)
  obtain ⟨c2, hS2⟩ := upd_plain (·.push (.bytes c t)) hL
  have hsame : Heap.SameBut L s.heap (s.heap.update L (Obj.mapSeq (·.push (.bytes c t)))) := Heap.SameBut.update ..
  have k : Kp (fun x => x = L) (fun _ => False) s { s with heap := s.heap.update L (Obj.mapSeq (·.push (.bytes c t))) } := ⟨fun b o _ hb e => hsame.extBut b o hb e, Nat.le_of_eq hsame.1.symm, fun ⟨u, e⟩ => ⟨u, hsame.extBut _ _ (Ne.symm a.ta) e⟩, Nat.le_refl _, fun _ _ _ e => e, fun e => e, rfl, fun e => e, CodesOk.but hsame.extBut a.ta (.seq hL rfl)⟩
  exact h _ ⟨a.ta, a.n36, a.n35, a.pat.kp k a.n36 a.n35, _, c2, hS2, by rw [Array.toList_push]; exact hb.app (.cons c t .nil), by rw [Array.size_push]; exact Nat.succ_le_succ hz⟩ k
theorem Acc.toks {L n ps tk} (a : Acc L s n ps) (htk : 0 < s.toks → 0 < tk) : Acc L { s with toks := tk } n ps := ⟨a.ta, a.n36, a.n35, a.pat, a.at_⟩
/-- a loop's result -/
noncomputable abbrev SubR (R : Result → Shared → Prop) (L : Addr) (out : List UInt8) (s : Shared) : Prop := ∀ r t' s', r.toList = out → Kp (fun x => x = L) (fun _ => False) s s' → R (.ok (.ret (.bytes r t'))) s'
theorem SubR.kp {R L out} {s s' : Shared} (h : SubR R L out s) (k : Kp (fun x => x = L) (fun _ => False) s s') : SubR R L out s' := fun r t' s2 e k2 => h r t' s2 e (k.trans k2)
noncomputable abbrev FinQ (prog : Program) (w : World) (A : Around) (R : Result → Shared → Prop) (fin : PySem.Fin) (s' : Shared) : Prop := match fin with
  | .done f => R (.ok f) s'
  | .again c' => c'.quiet = true ∧ codeAny (model prog w) A c' R s'
theorem flatB_snoc {ps : List (Array UInt8)} {c : Array UInt8} : flatB (ps ++ [c]) = flatB ps ++ c.toList := by
  unfold flatB
  rw [List.flatMap_append, List.flatMap_singleton]
/-- the end -/
theorem sub_end {b : Array UInt8} {L : Addr} {R : Result → Shared → Prop} {n : Nat} {ps : List (Array UInt8)} {E : Value → Shared → Prop} (hz : b.size ≤ sizeLine) (hlen : (flatB ps).length ≤ 1000000) (a : Acc L s n ps) (hR : SubR R L (flatB ps) s) :
    wpAny (model prog w) A.in1 (do
        let joiner ← reSlice (txt b) 1 0 0
        let items ← seqItems? (.ref L)
        if (items.getD #[]).isEmpty = true then do
          let text ← pure joiner
          ret text
        else do
          let text ← call (.builtin "bytes.join") [joiner, .ref L]
          ret text) (FinQ prog w A R) E s := by
  obtain ⟨acc, c0, hL, hb, _⟩ := a.at_
  refine wpAny_bind (slice_ok hz fun c t' hc => ?_)
  cases Array.toList_inj.mp (show c.toList = (#[] : Array UInt8).toList by rw [hc, List.drop_zero, Nat.sub_self, List.take_zero])
  refine wpAny_bind (wp_list hL ?_)
  by_cases he : acc.isEmpty = true
  · cases Array.isEmpty_iff.mp he
    cases hb
    exact wp_ifP he (wpAny_bind (wpAny_pure (wpAny_pure (hR _ _ _ rfl (K0.toks fun _ => Nat.succ_pos _).toW))))
  · exact wp_ifN he (wpAny_bind (call_join (s := { s with toks := s.toks + 1 }) hL hb hlen fun r t'' tk e1 e2 => wpAny_pure (hR _ _ _ e1 (K0.toks fun _ => Nat.lt_of_lt_of_le (Nat.succ_pos _) e2).toW)))
theorem subLoop_ok {b : Array UInt8} {t t2 : Tok} {L : Addr} {R : Result → Shared → Prop} (hz : b.size ≤ 100000) (hlen : (qpl true b.toList).length ≤ 1000000) :
    ∀ (j k : Nat) (n : Int) (s : Shared) (ps : List (Array UInt8)), b.size - k < j → k ≤ b.size → Acc L s (2 * k) ps → flatB ps ++ qpl (bol (txt b) k) (b.toList.drop k) = qpl true b.toList → SubR R L (qpl true b.toList) s → codeAny (model prog w) A (loopCode b t t2 L n k) R s
  | 0, k, n, s, ps, hj, _, _, _, _ => absurd hj (Nat.not_lt_zero _)
  | j + 1, k, n, s, ps, hj, hk, a, hq, hR => by
    have hzl : b.size ≤ sizeLine := Nat.le_trans hz (by rw [sizeLine_eq]; decide)
    have hts : (txt b).size = b.size := Array.size_map ..
    have k1 : Kp (fun x => x = L) (fun _ => False) s { s with toks := s.toks + 1 } := K0.tick.toW
    have h2k : 2 * k ≤ 200000 := Nat.mul_le_mul_left 2 (Nat.le_trans hk hz)
    refine codeAny_builtin entry_sub_loop ?_
    rw [Around.under_plainId plain_sub_loop _]
    unfold Builtin.«re.Pattern.sub.loop»
    refine wpAny_bind (whole_ok a.pat (wpAny_bind (wpAny_of_eq literal_eq (wpAny_bind (next_ok (k := k) hk (Nat.le_trans hz (by decide)) fun r m hr hf => ?_)))))
    have hsp := hunt_spec (b := b) (b.size - k) k (Nat.add_sub_cancel' hk)
    rw [← hr] at hsp
    cases r with
    | none =>
      rw [show qpl (bol (txt b) k) (b.toList.drop k) = b.toList.drop k from hsp] at hq
      by_cases hlt : k < b.size
      · refine wp_ifP (show k < (txt b).size by rw [hts]; exact hlt) (wpAny_bind (slice_ok (i := k) (j := (txt b).size) hzl fun c t' hc => wpAny_bind (push_ok (a.toks fun _ => Nat.succ_pos _) (Nat.le_trans h2k (by decide)) fun s' a' kk => ?_)))
        have e : flatB (ps ++ [c]) = qpl true b.toList := by
          rw [flatB_snoc, hc, ← hq, hts, List.take_of_length_le (by rw [List.length_drop]; exact Nat.le_refl _)]
        exact sub_end (R := R) hzl (e ▸ hlen) a' (e ▸ hR.kp (k1.trans kk))
      · have e : flatB ps = qpl true b.toList := by
          rw [← hq, List.drop_eq_nil_of_le (Nat.le_of_not_lt hlt), List.append_nil]
        exact wp_ifN (show ¬ k < (txt b).size by rw [hts]; exact hlt) (sub_end (R := R) hzl (e ▸ hlen) a (e ▸ hR))
    | some q =>
      obtain ⟨a1, a2, a3, a4⟩ := hsp
      obtain ⟨f1, f2, f3⟩ := hf
      rw [a3, ← a4] at hq
      have on : ∀ (s1 : Shared) (ps1 : List (Array UInt8)), Kp (fun x => x = L) (fun _ => False) s s1 → Acc L s1 (2 * q + 1) ps1 → flatB ps1 = flatB ps ++ (b.toList.drop k).take (q - k) →
          wpAny (model prog w) A.in1 (do
            updateSeq L (·.push (.bytes #[46, 46] t2))
            again (loopCode b t t2 L (n + 1) ((q + 1 : Nat) : Int))) (FinQ prog w A R) (fun e s' => R (.error e) s') s1 := fun s1 ps1 k1 a1' hq1 =>
        wpAny_bind (push_ok a1' (Nat.le_trans (Nat.succ_le_succ (Nat.mul_le_mul_left 2 (Nat.le_of_lt a2))) (Nat.le_trans (Nat.succ_le_succ (Nat.mul_le_mul_left 2 hz)) (by decide))) fun s' a' kk => wpAny_pure ⟨Code.quiet_builtin _ (by decide +kernel), subLoop_ok hz hlen j (q + 1) (n + 1) s' _ (Nat.lt_of_succ_lt_succ (Nat.lt_of_le_of_lt (Nat.le_trans (Nat.le_of_eq (Nat.succ_pred_eq_of_pos (Nat.sub_pos_of_lt a2))) (Nat.sub_le_sub_left a1 _)) hj)) a2 a' (by rw [flatB_snoc, hq1, ← hq]; simp only [List.append_assoc]) (hR.kp (k1.trans kk))⟩)
      show wpAny (model prog w) A.in1 (if k < m.start then _ else _) _ _ s
      rw [f2, f3, show (q + 1 == q) = false from beq_eq_false_iff_ne.mpr (Nat.succ_ne_self q)]
      by_cases hlt : k < q
      · exact wp_ifP hlt (wpAny_bind (slice_ok (i := k) (j := q) hzl fun c t' hc => wpAny_bind (push_ok (a.toks fun _ => Nat.succ_pos _) (Nat.le_trans h2k (by decide)) fun s' a' kk => on s' (ps ++ [c]) (k1.trans kk) ⟨a'.ta, a'.n36, a'.n35, a'.pat, let ⟨x, y, z1, z2, z3⟩ := a'.at_; ⟨x, y, z1, z2, Nat.le_trans z3 (Nat.succ_le_succ (Nat.mul_le_mul_left 2 a1))⟩⟩ (by rw [flatB_snoc, hc]))))
      · cases Nat.le_antisymm a1 (Nat.le_of_not_lt hlt)
        exact wp_ifN hlt (on s ps .refl ⟨a.ta, a.n36, a.n35, a.pat, let ⟨x, y, z1, z2, z3⟩ := a.at_; ⟨x, y, z1, z2, Nat.le_succ_of_le z3⟩⟩ (by rw [Nat.sub_self, List.take_zero, List.append_nil]))
end
open PySem.Sre PySem.Builtin.Re PySem.Builtin
theorem slot_re_sub : Slot "re.Pattern" "sub" "re.Pattern.sub" :=
  .of (owner := "re.Pattern") (n := "sub") (by rw [typeLookup_type, builtinLookup_eq_fast]; kernel_rfl) (by decide +kernel) (by decide +kernel) (by decide +kernel)
    (by first | exact .inl (by decide +kernel) | exact .inr (by decide +kernel)) (by rw [isSubtype_type]; kernel_rfl)
theorem entry_re_sub : entryFor table "re.Pattern.sub" = some Builtin.«re.Pattern.sub» := entryFor_of_tree (by kernel_rfl)
theorem args_re_sub (a b c : Value) : argsOk "re.Pattern.sub" ⟨[a, b, c], []⟩ := by unfold argsOk; kernel_rfl
theorem type_re_sub : typeOf (.builtin "re.Pattern.sub") = pure (.type "method_descriptor") := by kernel_rfl
theorem named_eq (a b : Value) : reNamed "re.Pattern.sub" "sub" ["repl", "string", "count"] 2 [a, b] [] = pure [some a, some b, none] := by kernel_rfl
theorem look_call : typeLookup (.type "bytes") "__call__" = pure none := by rw [typeLookup_type, builtinLookup_eq_fast]; kernel_rfl
theorem plainAttrs_re : PlainAttrs "re.Pattern" :=
  ⟨⟨"object.__getattribute__", by rw [typeLookup_type, builtinLookup_eq_fast]; kernel_rfl, by decide +kernel⟩, by rw [typeLookup_type, builtinLookup_eq_fast]; kernel_rfl⟩
noncomputable def qpB (b : Array UInt8) : Array UInt8 := (qpl true b.toList).toArray
section
variable {prog : Program} {w : World} {A : Around} {E : Value → Shared → Prop} {s : Shared}
theorem call_sub {b : Array UInt8} {t t2 : Tok} {Q : Value → Shared → Prop} (hp : PatIs s.heap) (hT : Tab s.heap) (hz : b.size ≤ 100000) (hlen : (qpl true b.toList).length ≤ 1000000)
    (hq : ∀ r t' s', r.toList = qpl true b.toList → K0 s s' → Q (.bytes r t') s') : wpAny (model prog w) A (call (.builtin "re.Pattern.sub") [.ref 36, .bytes #[46, 46] t2, .bytes b t]) Q E s := by
  obtain ⟨src, u1, u2, p1⟩ := hp.pat
  refine wpAny_call (codeAny_call_builtin slot_re_sub.plain entry_re_sub (slot_re_sub.check _ _ _ _ _ _ _ _ ⟨_, p1, rfl⟩ (args_re_sub _ _ _) ?_))
  unfold Builtin.«re.Pattern.sub» reSubstitute
  refine wpAny_bind (wpAny_of_eq (named_eq _ _) (wpAny_bind (wpAny_pure (wpAny_bind (wpAny_of_eq (KBy.special_eq look_call) (wpAny_bind (wpAny_of_eq asStr_bytes (wpAny_bind (wpAny_of_eq KBy.quiet_eq (wpAny_bind (wpAny_of_eq (show pure (!(#[46, 46] : Array UInt8).contains 92) = pure true from congrArg pure (by decide +kernel)) (wpAny_bind (wpAny_pure (wpAny_bind (wpAny_holding (whole_ok hp (wpAny_bind ?_)))))))))))))))))
  have hTA := TA_lt hT
  have k1 : K0 s { s with heap := s.heap.push { cls := .type "list", data := .seq #[] } } := K0.push1
  unfold newList
  refine wpAny_newObj_type (wpAny_pure ⟨Code.quiet_builtin _ (by decide +kernel), ?_⟩) (by size_fits)
  refine subLoop_ok (t := t) (t2 := t2) (L := s.heap.objs.size) hz hlen (b.size + 1) 0 0 _ [] (Nat.lt_succ_self _) (Nat.zero_le _) ⟨Nat.ne_of_gt hTA, fun q => Nat.lt_irrefl _ (q ▸ Heap.lt_size p1), fun q => Nat.lt_irrefl _ (q ▸ Heap.lt_size hp.code), ⟨⟨src, u1, u2, Heap.get?_push_of_some _ p1⟩, Heap.get?_push_of_some _ hp.code⟩, _, 0, Heap.get?_push_size _ rfl, .nil, Nat.le_refl _⟩ rfl fun r t' s' e1 e2 => hq r t' s' e1 ?_
  exact Kp.mono (W := fun x => x = s.heap.objs.size) (G := fun _ => False) (k1.toW.trans e2) (fun b h => .inr (get_none (Nat.le_of_eq h.symm))) fun _ h => h.elim
end
theorem qp_ok {l : L} {fa : Addr} {fd : FuncData} {b : Array UInt8} (p : PatIs l.h) (hlim : l.h.NoLimit) (F : FnIs l.h fa fd (bodyOf (nth 3)) ["bindata"] false) (hs : fd.scope = scopeOf (nth 3)) (hg : GlobIs l.h "_twin_re_1" (.ref 36)) (hz : b.size ≤ 100000) (hlen : (qpl true b.toList).length ≤ 1000000) :
    FnOk l.up (.ref fa) [.bytes b] (.bytes (qpB b)) := fun A s O vs g hvs => by
  refine fn_enter (l := l) F hlim rfl g hvs fun f s₁ op => ?_
  have a := op.act
  have hcx : fnCx fd = cxOf (nth 3) := by unfold cxOf; rw [← hs]
  have pat : ∀ {s : Shared}, Base l.h s.heap → PatIs s.heap := fun B => ⟨let ⟨x, y, z, e⟩ := p.pat; ⟨x, y, z, B.keep _ _ (by decide) e⟩, B.keep _ _ (by decide) p.code⟩
  obtain ⟨src, u1, u2, p1⟩ := (pat a.base).pat
  have k1 : kGlob (fnCx fd) "_twin_re_1" = true := by rw [hcx]; decide +kernel
  have k2 : kLoc (fnCx fd) "bindata" = true := by rw [hcx]; decide +kernel
  conv in (bodyOf _) => whnf
  refine wpAny_execs_cons (wpAny_Return_some (wpAny_Call_method_late rfl rfl (by decide) rfl (glob_ok a k1 hg ⟨"re.Pattern", _, plainAttrs_re, slot_re_sub, type_re_sub, ⟨_, p1, rfl⟩, fun a e => by cases e; exact ⟨_, p1, rfl⟩, ?_⟩)))
  have he : ∀ p q, EVs l (fnCx fd) [("bindata", .fz (.bytes b))] [.Constant (.bytes [46, 46]) 0 p, .Name "bindata" q] [.bytes #[46, 46], .bytes b] := fun _ _ => .cons rfl (EE_bytes (by rw [sizeLine_eq]; decide)) (.cons rfl (EE_loc k2 rfl) .nil)
  refine args_ok (first := [.ref 36]) rfl (he _ _) a .refl (.inl ⟨_, rfl⟩) fun vs s₂ k3 _ rl => rl.twoE fun v u r1 r2 => ?_
  obtain ⟨t2, rfl, _⟩ := rd_bytes.mp r1
  obtain ⟨t, rfl, _⟩ := rd_bytes.mp r2
  refine call_sub (t2 := t2) (pat (a.base.k0 k3)) (a.base.k0 k3).tab hz hlen fun r t' s' e1 k4 => ?_
  cases (show r = qpB b from by rw [qpB, ← e1])
  exact ⟨op.k.trans (k3.trans k4), rd_bytes.mpr ⟨t', rfl, Nat.le_trans hlen (by rw [sizeLine_eq]; decide)⟩⟩
noncomputable def chS (c : Nat) : Str := ⟨#[c]⟩
noncomputable def bsl : Str := "\\"
noncomputable abbrev itM (x : Int × Str) : AV := .tup [.int x.1, .str x.2]
noncomputable def stepP (e : Bool) (i c : Nat) : List (Int × Str) := if e then [((i : Int), bsl ++ chS c)] else if c == 92 then [] else [((i : Int), chS c)]
/-- the characters with their places -/
noncomputable def itP : Bool → Int → Nat → List Nat → List (Int × Str)
  | e, p, _, [] => if e then [(p, bsl)] else []
  | e, _, i, c :: r => stepP e i c ++ itP (!e && c == 92) i (i + 1) r
structure ItI (ρ : Ro) (e : Bool) (p : Int) : Prop where
  fz : allFz ρ = true
  esc : ρ.lookup ("escape" : Str) = some (.fz (.bool e))
  pos : ρ.lookup ("pos" : Str) = some (.fz (.int p))
theorem ch_ok {c : Nat} (h : c < 128) : PyData.strOk (chS c) = true := by
  unfold PyData.strOk chS
  simp; omega
theorem ch_beq {c : Nat} : (chS c == bsl) = (c == 92) := by
  have : bsl = chS 92 := by decide
  rw [this, Bool.eq_iff_iff, beq_iff_eq, beq_iff_eq]
  exact ⟨fun h => by simpa [chS] using congrArg Str.cps h, fun h => by rw [h]⟩
theorem look_put1 {ρ : Ro} {x : Str} {s : Sl} : (put ρ x s).lookup x = some s := (lookup_put ..).trans (if_pos rfl)
theorem look_put2 {ρ : Ro} {x y : Str} {s : Sl} {r} (h : y ≠ x) (h2 : ρ.lookup y = r) : (put ρ x s).lookup y = r := (lookup_put ..).trans ((if_neg h).trans h2)
theorem two_le {a b : AV} : [a, b].length ≤ sizeLine := by rw [sizeLine_eq]; exact (by decide : 2 ≤ 16777216)
section
variable {ℓ : L}
noncomputable abbrev cx12 : Cx := cxOf (nth 12)
theorem loc12 {ρ : Ro} {x : Str} {p : Pos} {a : AV} (h : kLoc cx12 x = true) (hl : ρ.lookup x = some (.fz a)) : EV ℓ cx12 ρ (.Name x p) a := EE_loc h hl
theorem it_turn {ρ : Ro} {e : Bool} {i c : Nat} (hc : c < 128) (I : ItI ρ e i) (h2 : ρ.lookup ("ch" : Str) = some (.fz (.str (chS c)))) :
    ∃ ρ', Gn ℓ cx12 ρ (execs (bodyOf (stm 12 2))) ρ' ((stepP e i c).map itM) ∧ ItI ρ' (!e && c == 92) i := by
  have hco : cx12.sc.isCoroutine = false := by decide +kernel
  have hs : canStore cx12 "escape" = true := by decide +kernel
  have ch : ∀ p, EV ℓ cx12 ρ (.Name "ch" p) (.str (chS c)) := fun p => loc12 (by decide +kernel) h2
  have ps : ∀ p, EV ℓ cx12 ρ (.Name "pos" p) (.int i) := fun p => loc12 (by decide +kernel) I.pos
  have put1 : ∀ b, ItI (put ρ "escape" (.fz (.bool b))) b i := fun b => ⟨allFz_put I.fz, look_put1, look_put2 (by decide) I.pos⟩
  conv in (bodyOf _) => whnf
  have t1 : ∀ p, TV ℓ cx12 ρ (.Name "escape" p) e := fun p => TT_name (loc12 (by decide +kernel) I.esc)
  have t2 : ∀ p q r, TV ℓ cx12 ρ (.Compare (.Name "ch" p) [.Eq] [.Constant (.str bsl) 0 q] r) (c == 92) := fun p q r => ch_beq ▸ TT_cmp rfl (ch _) (EE_str (by decide)) (cmp_eqS (ch_ok hc) (by decide +kernel))
  cases e
  · cases h : c == 92 <;> rw [h] at t2
    · exact ⟨ρ, gn_cons (gn_if (t1 _) (gn_cons (gn_if (t2 _ _ _) (gn_cons (gn_yield hco I.fz (EE_tup (exprs_cons rfl (ps _) (exprs_cons rfl (ch _) exprs_nil)) two_le)) gn_nil rfl)) gn_nil rfl)) gn_nil (by unfold stepP; rw [h]; rfl), I⟩
    · exact ⟨_, gn_cons (gn_if (t1 _) (gn_cons (gn_if (t2 _ _ _) (gn_cons (gn_asg (Bool.and_eq_true_iff.mpr ⟨rfl, hs⟩) EE_bool rfl) gn_nil rfl)) gn_nil rfl)) gn_nil (by unfold stepP; rw [h]; rfl), put1 true⟩
  · exact ⟨_, gn_cons (gn_if (t1 _) (gn_cons (gn_yield hco I.fz (EE_tup (exprs_cons rfl (ps _) (exprs_cons rfl (EE_bin (EE_str (by decide)) (ch _) (bin_addS (by rw [sizeLine_eq]; show 1 + 1 ≤ _; decide))) exprs_nil)) two_le)) (gn_cons (gn_asg (Bool.and_eq_true_iff.mpr ⟨rfl, hs⟩) EE_bool rfl) gn_nil rfl) rfl)) gn_nil rfl, put1 false⟩
theorem it_loop {i9 : Nat} {q1 q2 q3 : Pos} : ∀ (l : List Nat) (i : Nat) (e : Bool) (p : Int) (ρ : Ro), ItI ρ e p → (∀ c ∈ l, c < 128) → ∃ ρ' ys e' p', GnFor ℓ cx12 (bodyOf (stm 12 2)) (.Tuple [.Name "pos" q1, .Name "ch" q2] i9 q3) ρ (enumL i l) ρ' (ys.map itM) ∧ ItI ρ' e' p' ∧ itP e p i l = ys ++ (if e' then [(p', bsl)] else [])
  | [], i, e, p, ρ, h, _ => ⟨ρ, [], e, p, .nil, h, rfl⟩
  | c :: r, i, e, p, ρ, h, hl => by
    obtain ⟨ρ1, e1, g1⟩ := it_turn (ℓ := ℓ) (ρ := put (put ρ "pos" (.fz (.int i))) "ch" (.fz (.str (chS c)))) (hl c (.head _)) ⟨allFz_put (allFz_put h.fz), look_put2 (by decide) (look_put2 (by decide) h.esc), look_put2 (by decide) look_put1⟩ look_put1
    obtain ⟨ρ2, ys, e', p', e2, g2, e3⟩ := it_loop r (i + 1) _ _ ρ1 g1 fun d hd => hl d (.tail _ hd)
    refine ⟨ρ2, stepP e i c ++ ys, e', p', ?_, g2, ?_⟩
    · rw [List.map_append]
      exact .cons (.tup (.cons (by decide +kernel) rfl (.cons (by decide +kernel) rfl .nil))) e1 e2
    · rw [itP, e3, List.append_assoc]
theorem run_iter {x : Str} (T : TopIs ℓ.h) (hx : asciiS x = true) : ∃ ρ', Gn ℓ cx12 [("addr", .fz (.str x))] (execs (bodyOf (nth 12))) ρ' ((itP false 0 0 x.cps.toList).map itM) := by
  have hco : cx12.sc.isCoroutine = false := by decide +kernel
  have hl : ∀ c ∈ x.cps.toList, c < 128 := fun c hc => of_decide_eq_true (Array.all_eq_true_iff_forall_mem.mp hx c (Array.mem_toList_iff.mp hc))
  have hb := it_loop (ℓ := ℓ) (i9 := 0) (q1 := { line := 55, col := 8, endLine := 55, endCol := 11 }) (q2 := { line := 55, col := 13, endLine := 55, endCol := 15 }) (q3 := { line := 55, col := 8, endLine := 55, endCol := 15 }) x.cps.toList 0 false 0 (put (put [("addr", .fz (.str x))] "pos" (.fz (.int 0))) "escape" (.fz (.bool false))) ⟨rfl, rfl, rfl⟩ hl
  generalize hfb : bodyOf (stm 12 2) = fb at hb
  conv at hfb in (bodyOf _) => whnf
  conv in (bodyOf _) => whnf
  rw [hfb]
  obtain ⟨ρ1, ys, e', p', h1, h2, h3⟩ := hb
  rw [h3, List.map_append]
  have t2 : ∀ p, TV ℓ cx12 ρ1 (.Name "escape" p) e' := fun p => TT_name (loc12 (by decide +kernel) h2.esc)
  have fin : ∀ p q r s t, Gn ℓ cx12 ρ1 (execs (pick e' [.Expr (.Yield (some (.Tuple [.Name "pos" p, .Constant (.str bsl) 0 q] 0 r)) s) t] [])) ρ1 ((if e' then [(p', bsl)] else []).map itM) := by
    intro p q r s t
    cases e'
    · exact gn_nil
    · exact gn_cons (gn_yield hco h2.fz (EE_tup (exprs_cons rfl (loc12 (by decide +kernel) h2.pos) (exprs_cons rfl (EE_str (by decide)) exprs_nil)) two_le)) gn_nil rfl
  exact ⟨ρ1, gn_cons (gn_asg (by decide +kernel) EE_int rfl) (gn_cons (gn_asg (by decide +kernel) EE_bool rfl) (gn_cons (gn_for (gi_enum T (by decide +kernel) (loc12 (by decide +kernel) rfl) hx) h1) (gn_cons (gn_if (t2 _) (fin _ _ _ _ _)) gn_nil (List.append_nil _)) rfl) rfl) rfl⟩
end
theorem cmp_neI {a b : Int} : CmpOk .NotEq (.int a) (.int b) (!(a == b)) := by
  have this : CmpOk .NotEq (.int a) (.int b) (!PyData.eqv (.int a) (.int b)) := cmp_neD (n := 0) .int .int (Nat.zero_le _)
  rwa [PyData.eqv] at this
noncomputable def qt : Str := "\""
noncomputable abbrev R13 (addr : Str) (s : Int) (o : AV) (xs : List AV) (p : Int) (v : Str) : Ro := [("addr", .fz (.str addr)), ("start", .fz (.int s)), ("open_pos", .fz o), ("result", .own xs), ("pos", .fz (.int p)), ("ch", .fz (.str v))]
section
variable {ℓ : L} {addr v : Str} {s p q : Int} {o : AV} {xs' : List AV}
theorem cmp_qt {b : Bool} (hs : PyData.strOk v = true) (hv : (v == qt) = b) : CmpOk .Eq (.str v) (.str "\"") b := hv ▸ cmp_eqS hs (by decide +kernel)
theorem st_turn0 (hc : CmpOk .Eq (.str v) (.str "\"") false) : XS ℓ (cxOf (nth 13)) (R13 addr s o xs' p v) (bodyOf (stm 13 4)) (R13 addr s o xs' p v, .next) := by
  conv in (bodyOf _) => whnf
  walk_at "j"
theorem st_turn1 (hc : CmpOk .Eq (.str v) (.str "\"") true) : XS ℓ (cxOf (nth 13)) (R13 addr s .none xs' p v) (bodyOf (stm 13 4)) (R13 addr s (.int p) xs' p v, .next) := by
  conv in (bodyOf _) => whnf
  walk_at "j"
theorem st_turn2 (hc : CmpOk .Eq (.str v) (.str "\"") true) (hc2 : CmpOk .NotEq (.int s) (.int q) true) (hz : xs'.length < 1000000) :
    XS ℓ (cxOf (nth 13)) (R13 addr s (.int q) xs' p v) (bodyOf (stm 13 4)) (R13 addr (p + 1) .none (xs' ++ [.str (Txt.slice addr (some s) (some q))]) p v, .next) := by
  conv in (bodyOf _) => whnf
  walk_at "j"
theorem st_turn3 (hc : CmpOk .Eq (.str v) (.str "\"") true) (hc2 : CmpOk .NotEq (.int s) (.int q) false) :
    XS ℓ (cxOf (nth 13)) (R13 addr s (.int q) xs' p v) (bodyOf (stm 13 4)) (R13 addr (p + 1) .none xs' p v, .next) := by
  conv in (bodyOf _) => whnf
  walk_at "j"
/-- a turn of _strip_quoted_realnames -/
structure StS where
  s : Int
  o : Option Int
  ys : List Str
noncomputable def oA : Option Int → AV
  | none => .none
  | some q => .int q
noncomputable def stN (addr : Str) (st : StS) (e : Int × Str) : StS := cond (e.2 == qt) (st.o.elim { st with o := some e.1 } fun q => { s := e.1 + 1, o := none, ys := cond (st.s == q) st.ys (st.ys ++ [Txt.slice addr (some st.s) (some q)]) }) st
noncomputable abbrev Rst (addr : Str) (st : StS) (e : Int × Str) : Ro := R13 addr st.s (oA st.o) (st.ys.map .str) e.1 e.2
theorem st_turn {st : StS} {e : Int × Str} (hs : PyData.strOk e.2 = true) (hz : st.ys.length < 1000000) :
    XS ℓ (cxOf (nth 13)) (Rst addr st e) (bodyOf (stm 13 4)) (Rst addr (stN addr st e) e, .next) ∧ (stN addr st e).ys.length ≤ st.ys.length + 1 := by
  obtain ⟨s, o, ys⟩ := st
  obtain ⟨p, v⟩ := e
  have hc := cmp_qt hs rfl
  unfold stN
  dsimp only at hc ⊢
  cases hv : v == qt <;> rw [hv] at hc
  · exact ⟨st_turn0 hc, Nat.le_succ _⟩
  · cases o with
    | none => exact ⟨st_turn1 hc, Nat.le_succ _⟩
    | some q =>
      have h2 : CmpOk .NotEq (.int s) (.int q) (!(s == q)) := cmp_neI
      simp only [Option.elim]
      cases hq : s == q <;> rw [hq] at h2
      · refine ⟨?_, Nat.le_of_eq List.length_append⟩
        have := st_turn2 (ℓ := ℓ) (addr := addr) (xs' := ys.map .str) (p := p) hc h2 (by rw [List.length_map]; exact hz)
        rwa [show ys.map AV.str ++ [.str (Txt.slice addr (some s) (some q))] = (ys ++ [Txt.slice addr (some s) (some q)]).map .str by rw [List.map_append]; rfl] at this
      · exact ⟨st_turn3 hc h2, Nat.le_succ _⟩
theorem st_loop {q1 q2 q3 : Pos} {i9 : Nat} : ∀ (es : List (Int × Str)) (st : StS) (e : Int × Str), (∀ x ∈ es, PyData.strOk x.2 = true) → st.ys.length + es.length < 1000000 →
    ∃ e', ForR ℓ (cxOf (nth 13)) (bodyOf (stm 13 4)) (.Tuple [.Name "pos" q1, .Name "ch" q2] i9 q3) (Rst addr st e) (es.map itM) (Rst addr (es.foldl (stN addr) st) e', .next) ∧ (es.foldl (stN addr) st).ys.length < 1000000
  | [], st, e, _, hz => ⟨e, .nil, hz⟩
  | x :: es, st, e, h, hz => by
    have hz' : st.ys.length + 1 + es.length < 1000000 := by rw [Nat.add_assoc, Nat.add_comm 1]; exact hz
    obtain ⟨h1, h2⟩ := st_turn (ℓ := ℓ) (addr := addr) (h x (.head _)) (Nat.lt_of_le_of_lt (Nat.le_add_right _ _) hz)
    obtain ⟨e', h', hl⟩ := st_loop es (stN addr st x) x (fun y hy => h y (.tail _ hy)) (Nat.lt_of_le_of_lt (Nat.add_le_add_right h2 _) hz')
    exact ⟨e', .cons (.tup (.cons (by decide +kernel) rfl (.cons (by decide +kernel) rfl .nil))) h1 h', hl⟩
noncomputable abbrev ρ13 (addr : Str) : Ro := [("addr", .fz (.str addr)), ("start", .fz (.int 0)), ("open_pos", .fz .none), ("result", .own [])]
noncomputable def stripL (addr : Str) (es : List (Int × Str)) : List Str :=
  let st := es.foldl (stN addr) ⟨0, none, []⟩
  if st.s < addr.length then st.ys ++ [Txt.slice addr (some st.s) none] else st.ys
theorem strip_pre {rest r} (hni : CmpOk .NotIn (.str "\"") (.str addr) false) (k : XS ℓ (cxOf (nth 13)) (ρ13 addr) rest r) : XS ℓ (cxOf (nth 13)) [("addr", .fz (.str addr))] (stm 13 0 :: stm 13 1 :: stm 13 2 :: stm 13 3 :: rest) r := by
  conv in (stm 13 0) => whnf
  conv in (stm 13 1) => whnf
  conv in (stm 13 2) => whnf
  conv in (stm 13 3) => whnf
  walk_at "j"
theorem strip_suf {ys zs : List AV} {e : Int × Str} {r : AV} {s : Int} (hlen : FN ℓ "len" [.str addr] (.int addr.length)) (hz : ys.length < 1000000) (hy : zs = if s < addr.length then ys ++ [.str (Txt.slice addr (some s) none)] else ys) (hj : MT ℓ "join" (.str "") [.list zs] r) :
    ∃ ρ', XS ℓ (cxOf (nth 13)) (R13 addr s o ys e.1 e.2) [stm 13 5, stm 13 6] (ρ', .ret r) := by
  conv in (stm 13 5) => whnf
  conv in (stm 13 6) => whnf
  by_cases hlt : s < (addr.length : Int)
  · rw [if_pos hlt] at hy; subst hy
    apply ret_to
    walk_at "j"
    rfl
  · rw [if_neg hlt] at hy; subst hy
    apply ret_to
    walk_at "j"
    rfl
theorem run_strip {e : Int × Str} {es : List (Int × Str)} (T : TopIs ℓ.h) (hni : CmpOk .NotIn (.str "\"") (.str addr) false) (hlen : FN ℓ "len" [.str addr] (.int addr.length)) (hgf : GF ℓ "_iter_escaped_chars" [.str addr] ((e :: es).map itM))
    (hs : ∀ x ∈ e :: es, PyData.strOk x.2 = true) (hz : es.length < 999998) {r : Str} (hj : MT ℓ "join" (.str "") [.list ((stripL addr (e :: es)).map .str)] (.str r)) :
    ∃ ρ', XS ℓ (cxOf (nth 13)) [("addr", .fz (.str addr))] (bodyOf (nth 13)) (ρ', .ret (.str r)) := by
  have hb : bodyOf (nth 13) = [stm 13 0, stm 13 1, stm 13 2, stm 13 3, .For (.Tuple [.Name "pos" { line := 71, col := 8, endLine := 71, endCol := 11 }, .Name "ch" { line := 71, col := 13, endLine := 71, endCol := 15 }] 0 { line := 71, col := 8, endLine := 71, endCol := 15 }) (.Call (.Name "_iter_escaped_chars" { line := 71, col := 19, endLine := 71, endCol := 38 }) [.Name "addr" { line := 71, col := 39, endLine := 71, endCol := 43 }] [] { line := 71, col := 19, endLine := 71, endCol := 44 }) (bodyOf (stm 13 4)) [] (posOf (stm 13 4)), stm 13 5, stm 13 6] := by kernel_rfl
  rw [hb]
  obtain ⟨h1, h2⟩ := st_turn (ℓ := ℓ) (addr := addr) (st := ⟨0, none, []⟩) (hs e (.head _)) (by decide)
  obtain ⟨e', h', hl⟩ := st_loop (ℓ := ℓ) (addr := addr) (q1 := { line := 71, col := 8, endLine := 71, endCol := 11 }) (q2 := { line := 71, col := 13, endLine := 71, endCol := 15 }) (q3 := { line := 71, col := 8, endLine := 71, endCol := 15 }) (i9 := 0) es (stN addr ⟨0, none, []⟩ e) e (fun y hy => hs y (.tail _ hy)) (Nat.lt_of_le_of_lt (Nat.add_le_add_right h2 _) (by show 1 + es.length < _; rw [Nat.add_comm]; exact Nat.lt_trans (Nat.succ_lt_succ hz) (by decide)))
  obtain ⟨ρ', h⟩ := strip_suf (ℓ := ℓ) (addr := addr) (o := oA ((e :: es).foldl (stN addr) ⟨0, none, []⟩).o) (e := e') (s := ((e :: es).foldl (stN addr) ⟨0, none, []⟩).s) (ys := ((e :: es).foldl (stN addr) ⟨0, none, []⟩).ys.map .str) hlen (by rw [List.length_map]; exact hl) (by unfold stripL; dsimp only; split <;> simp only [List.map_append, List.map_cons, List.map_nil]) hj
  exact ⟨ρ', strip_pre hni (run_cons (SS_forG (ρ0 := ρ13 addr) T (.tup _ _ _) (by kernel_rfl) (by decide +kernel) (exprs_cons rfl (EE_loc (by decide +kernel) rfl) exprs_nil) hgf (.cons (.tup (.cons (by decide +kernel) rfl (.cons (by decide +kernel) rfl .nil))) h1 h')) h)⟩
end
theorem flat_le {α β : Type} {g : α → List β} {n m : Nat} (h : ∀ x, (g x).length ≤ 1) (l : List α) (hl : l.length ≤ n) (hn : n ≤ m) : (l.flatMap g).length ≤ m := by
  refine Nat.le_trans (Nat.le_trans ?_ hl) hn
  clear hl
  induction l with
  | nil => exact Nat.le_refl _
  | cons x l ih => rw [List.flatMap_cons, List.length_append, List.length_cons, Nat.add_comm]; exact Nat.add_le_add ih (h x)
theorem one_le {α β : Type} {c : α → Bool} {f : α → β} (x : α) : (if c x = true then [f x] else []).length ≤ 1 := by cases c x; exact Nat.zero_le _; exact Nat.le_refl _
noncomputable abbrev R23 (A1 A2 A3 A4 : AV) (T : Str) (due : List AV) (e : Int) (sg : Str) : Ro := [("ballot", .fz A1), ("left", .fz A2), ("names", .fz A3), ("stay", .fz A4), ("text", .fz (.str T)), ("end", .fz (.int e)), ("due", .own due), ("sign", .fz (.str sg))]
noncomputable abbrev ρ23 (A1 A2 A3 : AV) (st : List AV) (T : Str) : Ro := [("ballot", .fz A1), ("left", .fz A2), ("names", .fz A3), ("stay", .own st), ("text", .fz (.str T)), ("end", .fz (.int 0)), ("due", .own [])]
noncomputable abbrev forD (s : Stmt) : Stmt := .For (tgtOf s) (itrOf s) (bodyOf s) [] (posOf s)
noncomputable def dueF : Int → List Str → List (Int × Str)
  | _, [] => []
  | e, s :: r => (e + s.length - 1, s) :: dueF (e + s.length) r
section
variable {ℓ : L} {A1 A2 A3 A4 : AV} {T : Str}
theorem heard_turn {sg : Str} {due : List AV} {e : Int} (hlen : ∀ s, FN ℓ "len" [.str s] (.int (s.length : Int))) (hz : due.length < 1000000) :
    XS ℓ (cxOf (nth 23)) (R23 A1 A2 A3 A4 T due e sg) (bodyOf (stm 23 3)) (R23 A1 A2 A3 A4 T (due ++ [itM (e + sg.length - 1, sg)]) (e + sg.length) sg, .next) := by
  conv in (bodyOf _) => whnf
  walk_at "j"
theorem heard_pre {bl lf : List Int} {nm : List AV} {N : Int → Str} {J : Str} {rest r} (hix : ∀ c ∈ bl, IdxOk (.list nm) (.int c) (.str (N c))) (hin : ∀ c ∈ bl, CmpOk .In (.int c) (.list (lf.map .int)) (lf.contains c))
    (hN1 : ∀ c, (Str.ofString "\"").length + (N c).length ≤ sizeLine) (hN2 : ∀ c, (Str.ofString "\"" ++ N c).length + (Str.ofString "\"").length ≤ sizeLine) (hbl : bl.length ≤ 1000)
    (hj : MT ℓ "join" (.str "") [.list (bl.flatMap fun c => [if lf.contains c = true then AV.str (N c) else AV.str (Str.ofString "\"" ++ N c ++ Str.ofString "\"")])] (.str J)) (hJ : J.length + (Str.ofString "\"a\"\"\\").length ≤ sizeLine)
    (k : XS ℓ (cxOf (nth 23)) (ρ23 (.list (bl.map .int)) (.list (lf.map .int)) (.list nm) (bl.flatMap fun c => if lf.contains c = true then [AV.str (N c)] else []) (J ++ "\"a\"\"\\")) rest r) :
    XS ℓ (cxOf (nth 23)) [("ballot", .fz (.list (bl.map .int))), ("left", .fz (.list (lf.map .int))), ("names", .fz (.list nm))] (stm 23 0 :: stm 23 1 :: stm 23 2 :: rest) r := by
  have hL1 : (bl.flatMap fun c => if lf.contains c = true then [AV.str (N c)] else []).length ≤ 1000000 := flat_le one_le bl hbl (by decide)
  have hL2 : (bl.flatMap fun c => [if lf.contains c = true then AV.str (N c) else AV.str (Str.ofString "\"" ++ N c ++ Str.ofString "\"")]).length ≤ 1000000 := flat_le (fun _ => Nat.le_refl _) bl hbl (by decide)
  conv in (stm 23 0) => whnf
  conv in (stm 23 1) => whnf
  conv in (stm 23 2) => whnf
  walk_at "j"
theorem heard_for {q1 : Pos} (hlen : ∀ s, FN ℓ "len" [.str s] (.int (s.length : Int))) : ∀ (ss : List Str) (due : List AV) (e : Int) (sg : Str), due.length + ss.length < 1000000 →
    ∃ e' sg', ForR ℓ (cxOf (nth 23)) (bodyOf (stm 23 3)) (.Name "sign" q1) (R23 A1 A2 A3 A4 T due e sg) (ss.map .str) (R23 A1 A2 A3 A4 T (due ++ (dueF e ss).map itM) e' sg', .next)
  | [], due, e, sg, _ => ⟨e, sg, by rw [show due ++ (dueF e []).map itM = due from List.append_nil _]; exact .nil⟩
  | s :: ss, due, e, sg, hz => by
    obtain ⟨e', sg', h⟩ := heard_for hlen ss (due ++ [itM (e + s.length - 1, s)]) (e + s.length) s (by rw [List.length_append, Nat.add_assoc, Nat.add_comm _ ss.length]; exact hz)
    rw [List.append_assoc] at h
    exact ⟨e', sg', .cons (.name (by decide +kernel) rfl) (heard_turn hlen (Nat.lt_of_le_of_lt (Nat.le_add_right _ _) hz)) h⟩
theorem heard_loop {ss : List Str} (hlen : ∀ s, FN ℓ "len" [.str s] (.int (s.length : Int))) (hz : ss.length ≤ 1000) :
    ∃ e' sg', SS ℓ (cxOf (nth 23)) (ρ23 A1 A2 A3 (ss.map .str) T) (stm 23 3) (R23 A1 A2 A3 (.list (ss.map .str)) T ((dueF 0 (ss ++ [qt, bsl])).map itM) e' sg', .next) := by
  have hfb : stm 23 3 = forD (stm 23 3) := by kernel_rfl
  have hit : IT ℓ (cxOf (nth 23)) [("ballot", .fz A1), ("left", .fz A2), ("names", .fz A3), ("stay", .fz (.list (ss.map .str))), ("text", .fz (.str T)), ("end", .fz (.int 0)), ("due", .own [])] (tgtOf (stm 23 3)) (itrOf (stm 23 3)) ((ss ++ [qt, bsl]).map .str) := by
    rw [List.map_append]
    conv in (tgtOf _) => whnf
    conv in (itrOf _) => whnf
    show IT _ _ _ _ _ (ss.map AV.str ++ [AV.str (Str.ofString "\""), AV.str (Str.ofString "\\")])
    walk_at "j"
  cases hss : ss ++ [qt, bsl] with
  | nil => exact absurd (List.append_eq_nil_iff.mp hss).2 (by decide)
  | cons x r =>
    have hlr : r.length + 1 ≤ 1002 := by
      rw [← List.length_cons (a := x), ← hss, List.length_append]
      exact Nat.add_le_add_right hz 2
    obtain ⟨e', sg', h⟩ := heard_for (ℓ := ℓ) (A1 := A1) (A2 := A2) (A3 := A3) (A4 := .list (ss.map .str)) (T := T) (q1 := { line := 163, col := 8, endLine := 163, endCol := 12 }) hlen r [itM (0 + x.length - 1, x)] (0 + x.length) x (by rw [List.length_singleton, Nat.add_comm]; exact Nat.lt_of_le_of_lt hlr (by decide))
    refine ⟨e', sg', ?_⟩
    rw [hfb]
    rw [hss] at hit
    exact SS_for (by kernel_rfl) hit (.cons (.name (by decide +kernel) rfl) (heard_turn (due := []) hlen (by decide)) h)
theorem heard_suf {ss : List Str} {B J2 P' : Str} {e : Int} {sg : Str} {told due : List AV} {ps : List (Int × Str)} (Tp : TopIs ℓ.h)
    (hs1 : FN ℓ "_strip_quoted_realnames" [.str T] (.str B)) (hrz : T.length + (T.length + 1) * (Str.ofString "").length ≤ 16777216 ∧ (Txt.replace T "\"" "").length ≤ sizeLine)
    (hgf : GF ℓ "_iter_escaped_chars" [.str B] told) (htl : told.length ≤ 1000000)
    (hj2 : MT ℓ "join" (.str "") [.list (ss.map .str)] (.str J2)) (hJz : J2.length + (Str.ofString "\"\\").length ≤ sizeLine)
    (c1 : CmpOk .NotEq (.str B) (.str (J2 ++ Str.ofString "\"\\")) false) (c2 : CmpOk .NotEq (.list told) (.list due) false) (hs2 : FN ℓ "_strip_quoted_realnames" [.str (Txt.replace T "\"" "")] (.str P')) (c3 : CmpOk .NotEq (.str P') (.str (Txt.replace T "\"" "")) false)
    (hsl : sliceL told none (some (-2)) = ps.map itM) (hps : ps.length ≤ 1000) :
    ∃ ρ', XS ℓ (cxOf (nth 23)) (R23 A1 A2 A3 (.list (ss.map .str)) T due e sg) [stm 23 4, stm 23 5, stm 23 6, stm 23 7] (ρ', .ret (.list (ps.map fun x => .str x.2))) := by
  have hL : (ps.flatMap fun x => [AV.str x.2]).length ≤ 1000000 := flat_le (fun _ => Nat.le_refl _) ps hps (by decide)
  conv in (stm 23 4) => whnf
  conv in (stm 23 5) => whnf
  conv in (stm 23 6) => whnf
  conv in (stm 23 7) => whnf
  apply ret_to
  walk_at "j"
  rw [flat_one]
theorem run_heard {bl lf : List Int} {nm : List AV} {N : Int → Str} {J B J2 P' : Str} {ss : List Str} {told : List AV} {ps : List (Int × Str)} (Tp : TopIs ℓ.h) (hix : ∀ c ∈ bl, IdxOk (.list nm) (.int c) (.str (N c))) (hin : ∀ c ∈ bl, CmpOk .In (.int c) (.list (lf.map .int)) (lf.contains c))
    (hN1 : ∀ c, (Str.ofString "\"").length + (N c).length ≤ sizeLine) (hN2 : ∀ c, (Str.ofString "\"" ++ N c).length + (Str.ofString "\"").length ≤ sizeLine) (hbl : bl.length ≤ 1000)
    (hj : MT ℓ "join" (.str "") [.list (bl.flatMap fun c => [if lf.contains c = true then AV.str (N c) else AV.str (Str.ofString "\"" ++ N c ++ Str.ofString "\"")])] (.str J)) (hJ : J.length + (Str.ofString "\"a\"\"\\").length ≤ sizeLine)
    (hss : (bl.flatMap fun c => if lf.contains c = true then [AV.str (N c)] else []) = ss.map .str) (hlen : ∀ s, FN ℓ "len" [.str s] (.int (s.length : Int))) (hsz : ss.length ≤ 1000)
    (hs1 : FN ℓ "_strip_quoted_realnames" [.str (J ++ "\"a\"\"\\")] (.str B)) (hrz : (J ++ "\"a\"\"\\" : Str).length + ((J ++ "\"a\"\"\\" : Str).length + 1) * (Str.ofString "").length ≤ 16777216 ∧ (Txt.replace (J ++ "\"a\"\"\\") "\"" "").length ≤ sizeLine)
    (hgf : GF ℓ "_iter_escaped_chars" [.str B] told) (htl : told.length ≤ 1000000) (hj2 : MT ℓ "join" (.str "") [.list (ss.map .str)] (.str J2)) (hJz : J2.length + (Str.ofString "\"\\").length ≤ sizeLine)
    (c1 : CmpOk .NotEq (.str B) (.str (J2 ++ Str.ofString "\"\\")) false) (c2 : CmpOk .NotEq (.list told) (.list ((dueF 0 (ss ++ [qt, bsl])).map itM)) false) (hs2 : FN ℓ "_strip_quoted_realnames" [.str (Txt.replace (J ++ "\"a\"\"\\") "\"" "")] (.str P')) (c3 : CmpOk .NotEq (.str P') (.str (Txt.replace (J ++ "\"a\"\"\\") "\"" "")) false)
    (hsl : sliceL told none (some (-2)) = ps.map itM) (hps : ps.length ≤ 1000) :
    ∃ ρ', XS ℓ (cxOf (nth 23)) [("ballot", .fz (.list (bl.map .int))), ("left", .fz (.list (lf.map .int))), ("names", .fz (.list nm))] (bodyOf (nth 23)) (ρ', .ret (.list (ps.map fun x => .str x.2))) := by
  obtain ⟨e', sg', h2⟩ := heard_loop (ℓ := ℓ) (A1 := .list (bl.map .int)) (A2 := .list (lf.map .int)) (A3 := .list nm) (ss := ss) (T := J ++ "\"a\"\"\\") hlen hsz
  obtain ⟨ρ', h3⟩ := heard_suf (A1 := .list (bl.map .int)) (A2 := .list (lf.map .int)) (A3 := .list nm) (ss := ss) (e := e') (sg := sg') Tp hs1 hrz hgf htl hj2 hJz c1 c2 hs2 c3 hsl hps
  exact ⟨ρ', heard_pre (rest := [stm 23 3, stm 23 4, stm 23 5, stm 23 6, stm 23 7]) hix hin hN1 hN2 hbl hj hJ (hss ▸ run_cons h2 h3)⟩
end
noncomputable abbrev lsA (ls : List (List Str)) : List AV := ls.map fun l => .list (l.map .str)
noncomputable abbrev R24 (ls : List (List Str)) (m : Str) (i : Int) : Ro := [("lists", .fz (.list (lsA ls))), ("mail", .fz (.str m)), ("k", .fz (.int i))]
section
variable {ℓ : L} {ls : List (List Str)}
theorem mail_turn {m m2 J : Str} {i : Int} {b1 b2 : Array UInt8} {G : List Str → Str} (h1 : MT ℓ "encode" (.str m) [.str "ascii"] (.bytes b1)) (h2 : FN ℓ "_quote_periods" [.bytes b1] (.bytes b2)) (h3 : MT ℓ "decode" (.bytes b2) [.str "ascii"] (.str m2))
    (hix : ∀ l ∈ ls, IdxOk (.list (l.map .str)) (.int i) (.str (G l))) (hG1 : ∀ l, (Str.ofString ".").length + (G l).length ≤ sizeLine) (hG2 : ∀ l, (Str.ofString "." ++ G l).length + (Str.ofString "\r\n").length ≤ sizeLine) (hls : ls.length ≤ 1000)
    (hj : MT ℓ "join" (.str "") [.list (ls.flatMap fun l => [AV.str (Str.ofString "." ++ G l ++ Str.ofString "\r\n")])] (.str J)) (hz : m2.length + J.length ≤ sizeLine) :
    XS ℓ (cxOf (nth 24)) (R24 ls m i) (bodyOf (stm 24 1)) (R24 ls (m2 ++ J) i, .next) := by
  have hL2 : (ls.flatMap fun l => [AV.str (Str.ofString "." ++ G l ++ Str.ofString "\r\n")]).length ≤ 1000000 := flat_le (fun _ => Nat.le_refl _) ls hls (by decide)
  conv in (bodyOf _) => whnf
  unfold R24 lsA
  walk_at "j"
theorem mail_for {M : Nat → Str} {n : Nat} {q1 : Pos} (ht : ∀ i, i < n → XS ℓ (cxOf (nth 24)) (R24 ls (M i) i) (bodyOf (stm 24 1)) (R24 ls (M (i + 1)) i, .next)) : ∀ (j i : Nat) (x : Int), i + j = n →
    ∃ x', ForR ℓ (cxOf (nth 24)) (bodyOf (stm 24 1)) (.Name "k" q1) (R24 ls (M i) x) ((List.range' i j).map fun i : Nat => AV.int (i : Int)) (R24 ls (M n) x', .next)
  | 0, i, x, h => ⟨x, by rw [show i = n from h]; exact .nil⟩
  | j + 1, i, x, h => by
    obtain ⟨x', h'⟩ := mail_for ht j (i + 1) i (by rw [← h, Nat.add_assoc, Nat.add_comm 1])
    exact ⟨x', .cons (.name (by decide +kernel) rfl) (ht i (h ▸ Nat.lt_add_of_pos_right (Nat.succ_pos _))) h'⟩
theorem ints_range (n : Nat) : intsFrom 0 n = (List.range' 0 n).map fun i : Nat => AV.int (i : Int) := by
  unfold intsFrom
  rw [List.range_eq_range']
  exact List.map_congr_left fun i _ => by rw [Int.zero_add]
noncomputable def mail0 : Str := ".\r\na.\n.b\r.\r\n\r\n"
theorem run_mail {l0 : List Str} {lr : List (List Str)} {M : Nat → Str} {n : Nat} (T : TopIs ℓ.h) (h0 : M 0 = mail0) (hn : l0.length = n + 1) (hn2 : n ≤ 1000) (hlen : FN ℓ "len" [.list (l0.map .str)] (.int (n + 1 : Nat)))
    (ht : ∀ i, i < n + 1 → XS ℓ (cxOf (nth 24)) (R24 (l0 :: lr) (M i) i) (bodyOf (stm 24 1)) (R24 (l0 :: lr) (M (i + 1)) i, .next)) :
    ∃ ρ', XS ℓ (cxOf (nth 24)) [("lists", .fz (.list (lsA (l0 :: lr))))] (bodyOf (nth 24)) (ρ', .ret (.str (M (n + 1)))) := by
  have hb : bodyOf (nth 24) = [stm 24 0, forD (stm 24 1), stm 24 2] := by kernel_rfl
  have hrg : RgOk 0 ((n + 1 : Nat) : Int) (intsFrom 0 (n + 1)) := rg_of (Nat.lt_of_le_of_lt (Nat.succ_le_succ hn2) (by decide))
  obtain ⟨x', h'⟩ := mail_for (q1 := { line := 173, col := 8, endLine := 173, endCol := 9 }) ht n 1 0 (Nat.add_comm _ _)
  have h1 := ht 0 (Nat.succ_pos _)
  rw [h0] at h1
  have hit : IT ℓ (cxOf (nth 24)) [("lists", .fz (.list (lsA (l0 :: lr)))), ("mail", .fz (.str mail0))] (tgtOf (stm 24 1)) (itrOf (stm 24 1)) (intsFrom 0 (n + 1)) := by
    conv in (tgtOf _) => whnf
    conv in (itrOf _) => whnf
    rw [show lsA (l0 :: lr) = .list (l0.map .str) :: lsA lr from rfl]
    walk_at "j"
  rw [hb]
  have hs : ∃ ρ', XS ℓ (cxOf (nth 24)) (R24 (l0 :: lr) (M (n + 1)) x') [stm 24 2] (ρ', .ret (.str (M (n + 1)))) := by
    conv in (stm 24 2) => whnf
    apply ret_to
    walk_at "j"
    rfl
  obtain ⟨ρ', hs⟩ := hs
  have hp : SS ℓ (cxOf (nth 24)) [("lists", .fz (.list (lsA (l0 :: lr))))] (stm 24 0) ([("lists", .fz (.list (lsA (l0 :: lr)))), ("mail", .fz (.str mail0))], .next) := by
    conv in (stm 24 0) => whnf
    unfold mail0
    walk_at "j"
  refine ⟨ρ', run_cons hp (run_cons (SS_for (by kernel_rfl) hit ?_) hs)⟩
  rw [ints_range]
  exact .cons (.name (by decide +kernel) rfl) h1 h'
end
theorem Ran.sub {l : L} {cx : Cx} {f : Fm} {ρ1 ρ2 : Ro} {fl : Fl} {s s' : Shared} {c} (h : Ran l cx f (ρ1, fl) s c s') (hs : ∀ n sl, ρ2.lookup n = some sl → ρ1.lookup n = some sl) : Ran l cx f (ρ2, fl) s c s' := let ⟨O, Mu, a, b, d⟩ := h; ⟨O, Mu, a, b.weak hs, d⟩
/-- a run, of which some is forgotten -/
theorem XS.take {l : L} {cx : Cx} {ρ ρ2 rest : Ro} {b fl} (h : XS l cx ρ b (ρ2 ++ rest, fl)) : XS l cx ρ b (ρ2, fl) := .mk fun f s a => wpAny_mono (h.ok f s a) (fun _ _ q => q.sub fun n sl e => by rw [List.lookup_append, e]; rfl) fun _ _ z => z
theorem sub_ok {ρ ρ' : Ro} (h : (ρ'.map fun p => ρ.lookup p.1) = ρ'.map fun p => some p.2) : ∀ n sl, ρ'.lookup n = some sl → ρ.lookup n = some sl := fun n sl e => List.map_inj_left.mp h _ (lookup_mem e)
theorem XS.less {l : L} {cx : Cx} {ρ : Ro} (ρ' : Ro) {b r} (h : XS l cx ρ' b r) (hs : (ρ'.map fun p => ρ.lookup p.1) = ρ'.map fun p => some p.2) : XS l cx ρ b r := .mk fun f s a => h.ok f s (a.weak (sub_ok hs))
theorem flat_if {α β : Type} (f : α → β) (p : α → Bool) (l : List α) : l.flatMap (fun c => if p c = true then [f c] else []) = (l.filter p).map f := by
  induction l with
  | nil => rfl
  | cons x l ih =>
    rw [List.flatMap_cons, ih, List.filter_cons]
    cases p x <;> rfl
noncomputable abbrev bsA (bs : List (List Int)) : AV := .list (bs.map fun b => .list (b.map .int))
noncomputable abbrev cx25 : Cx := cxOf (nth 25)
noncomputable def st25 (i : Nat) : Stmt := at_ (bodyOf (at_ (bodyOf (stm 25 1)) 0)) i
noncomputable abbrev E25 (bs : List (List Int)) (nm : List AV) (left : Sl) (sc : List AV) (r : Ro) : Ro := ("ballots", .fz (bsA bs)) :: ("names", .fz (.list nm)) :: ("left", left) :: ("scores", .own sc) :: r
section
variable {ℓ : L} {bs : List (List Int)} {nm : List AV} {lf : List Int} {sc : List AV} {dg : Int} {H : List Int → List Str} {M D hd : Str} {rows : List Str} {LS : Str → Str} {N : Int → Str} {P : Int → Int} {S q pw : Int} {low : List Int} {Jx : Int → Int} {ks : List Int} {G : List Int → Int → Str} {rest : List Stmt} {r : Ro × Fl}
noncomputable abbrev lfA (lf : List Int) : Sl := .fz (.list (lf.map .int))
noncomputable abbrev llA (H : List Int → List Str) (bs : List (List Int)) : List AV := bs.map fun b => .list ((H b).map .str)
theorem leftA (hbs : bs.length ≤ 1000) (h1 : ∀ b ∈ bs, FN ℓ "_law_heard" [.list (b.map .int), .list (lf.map .int), .list nm] (.list ((H b).map .str)))
    (k : XS ℓ cx25 (E25 bs nm (lfA lf) sc [("digit", .fz (.int dg)), ("lists", .own (llA H bs))]) rest r) : XS ℓ cx25 (E25 bs nm (lfA lf) sc [("digit", .fz (.int dg))]) (st25 0 :: rest) r := by
  have hL : (bs.flatMap fun b => [AV.list ((H b).map .str)]).length ≤ 1000000 := flat_le (fun _ => Nat.le_refl _) bs hbs (by decide)
  rw [show llA H bs = bs.flatMap fun b => [AV.list ((H b).map .str)] from (flat_one _ _).symm] at k
  conv in (st25 0) => whnf
  walk_at "j"
theorem leftB {Ls : List AV} (hlen : ∀ xs, FN ℓ "len" [.list xs] (.int (xs.length : Int))) (hlenS : ∀ s, FN ℓ "len" [.str s] (.int (s.length : Int)))
    (h2 : CmpOk .In .none (.list Ls) false) (h3 : FN ℓ "_law_mail" [.list Ls] (.str M)) (h4 : BinOk .Mult (.str ".") (.int (((lf.map AV.int).length : Int) + 1)) (.str D))
    (hb1 : BinOk .Add (.str D) (.str "\r\na.\n") (.str (D ++ "\r\na.\n"))) (hb2 : BinOk .Add (.str (D ++ "\r\na.\n")) (.str D) (.str (D ++ "\r\na.\n" ++ D))) (hb3 : BinOk .Add (.str (D ++ "\r\na.\n" ++ D)) (.str "b\r.\r\n\r\n") (.str hd))
    (h5 : MT ℓ "split" (.str (Txt.slice M (some (hd.length : Int)) none)) [.str "\r\n"] (.list (rows.map .str)))
    (k : XS ℓ cx25 (E25 bs nm (lfA lf) sc [("digit", .fz (.int dg)), ("lists", .fz (.list Ls)), ("mail", .fz (.str M)), ("size", .fz (.int ((lf.map AV.int).length : Int))), ("head", .fz (.str hd)), ("rows", .fz (.list (rows.map .str)))]) rest r) :
    XS ℓ cx25 (E25 bs nm (lfA lf) sc [("digit", .fz (.int dg)), ("lists", .own Ls)]) (st25 1 :: st25 2 :: st25 3 :: st25 4 :: rest) r := by
  conv in (st25 1) => whnf
  conv in (st25 2) => whnf
  conv in (st25 3) => whnf
  conv in (st25 4) => whnf
  walk_at "j"
theorem leftD (hlen : ∀ xs, FN ℓ "len" [.list xs] (.int (xs.length : Int))) (hlenS : ∀ s, FN ℓ "len" [.str s] (.int (s.length : Int))) (h6 : ∀ r ∈ rows, MT ℓ "lstrip" (.str r) [.str "."] (.str (LS r))) (hr : rows.length ≤ 1000) (T : TopIs ℓ.h)
    (d1 : CmpOk .NotEq (.str (Txt.slice M none (some (hd.length : Int)))) (.str hd) false) (hrg : RgOk 0 ((lf.map AV.int).length : Int) (ks.map .int)) (hix : ∀ kk ∈ ks, ∀ b ∈ bs, IdxOk (.list ((H b).map .str)) (.int kk) (.str (G b kk))) (hK : (ks.flatMap fun kk => bs.flatMap fun b => [AV.str (G b kk)]).length ≤ 1000)
    (d2 : CmpOk .NotEq (.list (rows.map fun r => AV.str (LS r))) (.list ((ks.flatMap fun kk => bs.flatMap fun b => [AV.str (G b kk)]) ++ [.str ""])) false)
    (k : XS ℓ cx25 (E25 bs nm (lfA lf) sc [("digit", .fz (.int dg)), ("size", .fz (.int ((lf.map AV.int).length : Int))), ("rows", .fz (.list (rows.map .str))), ("bare", .fz (.list (rows.map fun r => AV.str (LS r))))]) rest r) :
    XS ℓ cx25 (E25 bs nm (lfA lf) sc [("digit", .fz (.int dg)), ("lists", .fz (.list (llA H bs))), ("mail", .fz (.str M)), ("size", .fz (.int ((lf.map AV.int).length : Int))), ("head", .fz (.str hd)), ("rows", .fz (.list (rows.map .str)))]) (st25 5 :: st25 6 :: rest) r := by
  have hL : (rows.flatMap fun r => [AV.str (LS r)]).length ≤ 1000000 := flat_le (fun _ => Nat.le_refl _) rows hr (by decide)
  have hK2 : (ks.flatMap fun kk => bs.flatMap fun b => [AV.str (G b kk)]).length ≤ 1000000 := Nat.le_trans hK (by decide)
  have hK3 : BinOk .Add (.list (ks.flatMap fun kk => bs.flatMap fun b => [AV.str (G b kk)])) (.list [.str ""]) (.list ((ks.flatMap fun kk => bs.flatMap fun b => [AV.str (G b kk)]) ++ [.str ""])) := bin_addL (by rw [List.length_singleton, sizeLine_eq]; exact Nat.le_trans (Nat.add_le_add_right hK 1) (by decide))
  rw [show (rows.map fun r => AV.str (LS r)) = rows.flatMap fun r => [AV.str (LS r)] from (flat_one _ _).symm] at k d2
  conv in (st25 5) => whnf
  conv in (st25 6) => whnf
  have k' := XS.less (ρ := E25 bs nm (lfA lf) sc [("digit", .fz (.int dg)), ("lists", .fz (.list (llA H bs))), ("mail", .fz (.str M)), ("size", .fz (.int ((lf.map AV.int).length : Int))), ("head", .fz (.str hd)), ("rows", .fz (.list (rows.map .str))), ("bare", .fz (.list (rows.flatMap fun r => [AV.str (LS r)])))]) _ k (by kernel_rfl)
  walk_at "j"
theorem leftE (hlen : ∀ xs, FN ℓ "len" [.list xs] (.int (xs.length : Int))) (hlenS : ∀ s, FN ℓ "len" [.str s] (.int (s.length : Int))) (T : TopIs ℓ.h)
    (hzip : zipA (rows.map .str) (rows.map fun r => AV.str (LS r)) = rows.map fun r => .tup [.str r, .str (LS r)]) (hcmp : ∀ r ∈ rows, ∀ c ∈ lf, CmpOk .Eq (.str (LS r)) (.str (N c)) (LS r == N c)) (hixN : ∀ c ∈ lf, IdxOk (.list nm) (.int c) (.str (N c))) (hr : rows.length ≤ 1000) (hl : lf.length ≤ 1000)
    (hsum : ∀ c ∈ lf, FN ℓ "sum" [.list (rows.flatMap fun r => if (LS r == N c) = true then [.int ((r.length : Int) - ((LS r).length : Int))] else [])] (.int (P c)))
    (k : XS ℓ cx25 (E25 bs nm (lfA lf) sc [("digit", .fz (.int dg)), ("size", .fz (.int ((lf.map AV.int).length : Int))), ("points", .own (lf.map fun c => AV.int (P c)))]) rest r) :
    XS ℓ cx25 (E25 bs nm (lfA lf) sc [("digit", .fz (.int dg)), ("size", .fz (.int ((lf.map AV.int).length : Int))), ("rows", .fz (.list (rows.map .str))), ("bare", .fz (.list (rows.map fun r => AV.str (LS r))))]) (st25 7 :: rest) r := by
  have hL1 : ∀ c, (rows.flatMap fun r => if (LS r == N c) = true then [AV.int ((r.length : Int) - ((LS r).length : Int))] else []).length ≤ 1000000 := fun c => flat_le (fun x => one_le (c := fun r => LS r == N c) (f := fun r => AV.int ((r.length : Int) - ((LS r).length : Int))) x) rows hr (by decide)
  have hL2 : (lf.flatMap fun c => [AV.int (P c)]).length ≤ 1000000 := flat_le (fun _ => Nat.le_refl _) lf hl (by decide)
  rw [show (lf.map fun c => AV.int (P c)) = lf.flatMap fun c => [AV.int (P c)] from (flat_one _ _).symm] at k
  have k' := XS.less (ρ := E25 bs nm (lfA lf) sc [("digit", .fz (.int dg)), ("size", .fz (.int ((lf.map AV.int).length : Int))), ("rows", .fz (.list (rows.map .str))), ("bare", .fz (.list (rows.map fun r => AV.str (LS r)))), ("points", .own (lf.flatMap fun c => [AV.int (P c)]))]) _ k (by kernel_rfl)
  conv in (st25 7) => whnf
  walk_at "j"
theorem leftF (T : TopIs ℓ.h) (hzip2 : zipA (lf.map .int) (lf.map fun c => AV.int (P c)) = lf.map fun c => .tup [.int c, .int (P c)]) (hsum2 : FN ℓ "sum" [.list (lf.map fun c => AV.int (P c))] (.int S)) (hl : lf.length ≤ 1000) (hP : ∀ c, (P c).natAbs < 2 ^ 63 ∨ ((lf.map AV.int).length : Int).natAbs < 2 ^ 63) (hsc : sc.length < 1000)
    (k : XS ℓ cx25 (E25 bs nm (lfA lf) (sc ++ [.list (lf.map fun c => AV.int (P c))]) [("digit", .fz (.int dg)), ("low", .own ((lf.filter fun c => decide (P c * ((lf.map AV.int).length : Int) ≤ S)).map .int))]) rest r) :
    XS ℓ cx25 (E25 bs nm (lfA lf) sc [("digit", .fz (.int dg)), ("size", .fz (.int ((lf.map AV.int).length : Int))), ("points", .own (lf.map fun c => AV.int (P c)))]) (st25 8 :: st25 9 :: rest) r := by
  have hL2 : (lf.flatMap fun c => if decide (P c * ((lf.map AV.int).length : Int) ≤ S) = true then [AV.int c] else []).length ≤ 1000000 := flat_le (fun x => one_le (c := fun c => decide (P c * ((lf.map AV.int).length : Int) ≤ S)) (f := AV.int) x) lf hl (by decide)
  rw [← flat_if] at k
  have k' := XS.less (ρ := E25 bs nm (lfA lf) (sc ++ [.list (lf.map fun c => AV.int (P c))]) [("digit", .fz (.int dg)), ("size", .fz (.int ((lf.map AV.int).length : Int))), ("points", .fz (.list (lf.map fun c => AV.int (P c)))), ("low", .own (lf.flatMap fun c => if decide (P c * ((lf.map AV.int).length : Int) ≤ S) = true then [AV.int c] else []))]) _ k (by kernel_rfl)
  conv in (st25 8) => whnf
  conv in (st25 9) => whnf
  walk_at "j"
theorem leftG (hlen : ∀ xs, FN ℓ "len" [.list xs] (.int (xs.length : Int))) (hpw : BinOk .Pow (.int 2) (.int ((low.map AV.int).length : Int)) (.int pw)) (hmd : BinOk .Mod (.int dg) (.int (pw - 1)) (.int q)) (hni : ∀ c ∈ lf, CmpOk .NotIn (.int c) (.list (low.map .int)) (!low.contains c)) (hl : lf.length ≤ 1000)
    (hidx : ∀ c ∈ lf, (!low.contains c) = false → MT ℓ "index" (.list (low.map .int)) [.int c] (.int (Jx c))) (hsh : ∀ c, 0 ≤ Jx c) :
    XS ℓ cx25 (E25 bs nm (lfA lf) sc [("digit", .fz (.int dg)), ("low", .own (low.map .int))]) [st25 10, st25 11] (E25 bs nm (.own ((lf.filter fun c => (!low.contains c) || (Builtin.bitAnd ((1 + q).fdiv (2 ^ (Jx c).toNat)) 1 == 0)).map .int)) sc [], .next) := by
  have hL2 : (lf.flatMap fun c => if ((!low.contains c) || (Builtin.bitAnd ((1 + q).fdiv (2 ^ (Jx c).toNat)) 1 == 0)) = true then [AV.int c] else []).length ≤ 1000000 := flat_le (fun x => one_le (c := fun c => (!low.contains c) || (Builtin.bitAnd ((1 + q).fdiv (2 ^ (Jx c).toNat)) 1 == 0)) (f := AV.int) x) lf hl (by decide)
  rw [← flat_if]
  refine XS.take (rest := [("digit", .fz (.int dg)), ("low", .fz (.list (low.map .int))), ("choice", .fz (.int (1 + q)))]) ?_
  conv in (st25 10) => whnf
  conv in (st25 11) => whnf
  show XS ℓ cx25 _ _ (E25 bs nm (.own (lf.flatMap fun c => if ((!low.contains c) || (Builtin.bitAnd ((1 + q).fdiv (2 ^ (Jx c).toNat)) 1 == 0)) = true then [AV.int c] else [])) sc [("digit", .fz (.int dg)), ("low", .fz (.list (low.map .int))), ("choice", .fz (.int (1 + q)))], .next)
  walk_at "j"
end
section
variable {ℓ : L} {bs : List (List Int)} {nm : List AV} {lf lf' : List Int} {sc : List AV} {dg : Int} {H : List Int → List Str} {M D hd : Str} {rows : List Str} {LS : Str → Str} {N : Int → Str} {P : Int → Int} {S q pw : Int} {low : List Int} {Jx : Int → Int} {ks : List Int} {G : List Int → Int → Str} {s : Sl}
theorem leftT (T : TopIs ℓ.h) (hlen : ∀ xs, FN ℓ "len" [.list xs] (.int (xs.length : Int))) (hlenS : ∀ s, FN ℓ "len" [.str s] (.int (s.length : Int))) (hbs : bs.length ≤ 1000) (h1 : ∀ b ∈ bs, FN ℓ "_law_heard" [.list (b.map .int), .list (lf.map .int), .list nm] (.list ((H b).map .str)))
    (h2 : CmpOk .In .none (.list (llA H bs)) false) (h3 : FN ℓ "_law_mail" [.list (llA H bs)] (.str M)) (h4 : BinOk .Mult (.str ".") (.int (((lf.map AV.int).length : Int) + 1)) (.str D))
    (hb1 : BinOk .Add (.str D) (.str "\r\na.\n") (.str (D ++ "\r\na.\n"))) (hb2 : BinOk .Add (.str (D ++ "\r\na.\n")) (.str D) (.str (D ++ "\r\na.\n" ++ D))) (hb3 : BinOk .Add (.str (D ++ "\r\na.\n" ++ D)) (.str "b\r.\r\n\r\n") (.str hd))
    (h5 : MT ℓ "split" (.str (Txt.slice M (some (hd.length : Int)) none)) [.str "\r\n"] (.list (rows.map .str))) (h6 : ∀ r ∈ rows, MT ℓ "lstrip" (.str r) [.str "."] (.str (LS r))) (hr : rows.length ≤ 1000)
    (d1 : CmpOk .NotEq (.str (Txt.slice M none (some (hd.length : Int)))) (.str hd) false) (hrg : RgOk 0 ((lf.map AV.int).length : Int) (ks.map .int)) (hix : ∀ kk ∈ ks, ∀ b ∈ bs, IdxOk (.list ((H b).map .str)) (.int kk) (.str (G b kk))) (hK : (ks.flatMap fun kk => bs.flatMap fun b => [AV.str (G b kk)]).length ≤ 1000)
    (d2 : CmpOk .NotEq (.list (rows.map fun r => AV.str (LS r))) (.list ((ks.flatMap fun kk => bs.flatMap fun b => [AV.str (G b kk)]) ++ [.str ""])) false)
    (hzip : zipA (rows.map .str) (rows.map fun r => AV.str (LS r)) = rows.map fun r => .tup [.str r, .str (LS r)]) (hcmp : ∀ r ∈ rows, ∀ c ∈ lf, CmpOk .Eq (.str (LS r)) (.str (N c)) (LS r == N c)) (hixN : ∀ c ∈ lf, IdxOk (.list nm) (.int c) (.str (N c))) (hl : lf.length ≤ 1000)
    (hsum : ∀ c ∈ lf, FN ℓ "sum" [.list (rows.flatMap fun r => if (LS r == N c) = true then [.int ((r.length : Int) - ((LS r).length : Int))] else [])] (.int (P c)))
    (hzip2 : zipA (lf.map .int) (lf.map fun c => AV.int (P c)) = lf.map fun c => .tup [.int c, .int (P c)]) (hsum2 : FN ℓ "sum" [.list (lf.map fun c => AV.int (P c))] (.int S)) (hP : ∀ c, (P c).natAbs < 2 ^ 63 ∨ ((lf.map AV.int).length : Int).natAbs < 2 ^ 63)
    (hlow : low = lf.filter fun c => decide (P c * ((lf.map AV.int).length : Int) ≤ S)) (hpw : BinOk .Pow (.int 2) (.int ((low.map AV.int).length : Int)) (.int pw)) (hmd : BinOk .Mod (.int dg) (.int (pw - 1)) (.int q)) (hni : ∀ c ∈ lf, CmpOk .NotIn (.int c) (.list (low.map .int)) (!low.contains c))
    (hidx : ∀ c ∈ lf, (!low.contains c) = false → MT ℓ "index" (.list (low.map .int)) [.int c] (.int (Jx c))) (hsh : ∀ c, 0 ≤ Jx c) (hlf : lf' = lf.filter fun c => (!low.contains c) || (Builtin.bitAnd ((1 + q).fdiv (2 ^ (Jx c).toNat)) 1 == 0)) (hsc : sc.length < 1000) :
    XS ℓ cx25 (E25 bs nm (lfA lf) sc [("digit", .fz (.int dg))]) [st25 0, st25 1, st25 2, st25 3, st25 4, st25 5, st25 6, st25 7, st25 8, st25 9, st25 10, st25 11] (E25 bs nm (.own (lf'.map .int)) (sc ++ [.list (lf.map fun c => AV.int (P c))]) [], .next) := by
  subst hlow; subst hlf
  exact leftA hbs h1 (leftB hlen hlenS h2 h3 h4 hb1 hb2 hb3 h5 (leftD hlen hlenS h6 hr T d1 hrg hix hK d2 (leftE hlen hlenS T hzip hcmp hixN hr hl hsum (leftF T hzip2 hsum2 hl hP hsc (leftG hlen hpw hmd hni hl hidx hsh)))))
/-- a round that is played -/
noncomputable def Rnd (ℓ : L) (bs : List (List Int)) (nm : List AV) (lf : List Int) (dg : Int) (P : Int → Int) (lf' : List Int) : Prop := 1 < lf.length ∧ ∀ sc : List AV, sc.length < 1000 →
  XS ℓ cx25 (E25 bs nm (lfA lf) sc [("digit", .fz (.int dg))]) [st25 0, st25 1, st25 2, st25 3, st25 4, st25 5, st25 6, st25 7, st25 8, st25 9, st25 10, st25 11] (E25 bs nm (.own (lf'.map .int)) (sc ++ [.list (lf.map fun c => AV.int (P c))]) [], .next)
/-- one round: a turn, or nothing where one is left -/
noncomputable def Rnd1 (ℓ : L) (bs : List (List Int)) (nm : List AV) (lf : List Int) (dg : Int) (lf' : List Int) : Prop := (lf.length ≤ 1 ∧ lf' = lf) ∨ ∃ P, Rnd ℓ bs nm lf dg P lf'
noncomputable def t25 : Expr := tgtOf (at_ (bodyOf (stm 25 1)) 0)
theorem body25 : ∃ p, bodyOf (stm 25 1) = [.If t25 [st25 0, st25 1, st25 2, st25 3, st25 4, st25 5, st25 6, st25 7, st25 8, st25 9, st25 10, st25 11] [] p] := ⟨_, rfl⟩
theorem frz25 (hs : frzI true s = lfA lf) : frzM (namesIn t25) (E25 bs nm s sc [("digit", .fz (.int dg))]) = E25 bs nm (lfA lf) sc [("digit", .fz (.int dg))] := by
  rw [← hs]; kernel_rfl
theorem test25 {b : Bool} (hlen : ∀ xs, FN ℓ "len" [.list xs] (.int (xs.length : Int))) (hb : decide (1 < ((lf.map AV.int).length : Int)) = b) : TV ℓ cx25 (E25 bs nm (lfA lf) sc [("digit", .fz (.int dg))]) t25 b := by
  subst hb
  conv in (t25) => whnf
  walk_at "j"
theorem left_turn (hlen : ∀ xs, FN ℓ "len" [.list xs] (.int (xs.length : Int))) (hs : frzI true s = lfA lf) (T : Rnd ℓ bs nm lf dg P lf') (hsc : sc.length < 1000) :
    XS ℓ cx25 (E25 bs nm s sc [("digit", .fz (.int dg))]) (bodyOf (stm 25 1)) (E25 bs nm (.own (lf'.map .int)) (sc ++ [.list (lf.map fun c => AV.int (P c))]) [], .next) := by
  obtain ⟨p, hb⟩ := body25
  rw [hb]
  exact run_if (c' := true) (frz25 hs) (test25 hlen rfl) (decide_eq_true (by rw [List.length_map]; exact Int.ofNat_lt.mpr T.1)) (T.2 sc hsc) (cont_next run_nil)
theorem left_round (hlen : ∀ xs, FN ℓ "len" [.list xs] (.int (xs.length : Int))) (hs : frzI true s = lfA lf) (T : Rnd1 ℓ bs nm lf dg lf') (hsc : sc.length < 999) :
    ∃ s' sc', frzI true s' = lfA lf' ∧ sc'.length ≤ 1 ∧ XS ℓ cx25 (E25 bs nm s sc [("digit", .fz (.int dg))]) (bodyOf (stm 25 1)) (E25 bs nm s' (sc ++ sc') [], .next) := by
  rcases T with ⟨hl, rfl⟩ | ⟨P, T⟩
  · obtain ⟨p, hb⟩ := body25
    rw [hb]
    refine ⟨lfA lf', [], rfl, Nat.zero_le _, ?_⟩
    rw [List.append_nil]
    exact XS.take (rest := [("digit", .fz (.int dg))]) (run_if (c' := false) (frz25 hs) (test25 hlen rfl) (decide_eq_false (by rw [List.length_map]; exact fun q => Nat.lt_irrefl _ (Nat.lt_of_lt_of_le (Int.ofNat_lt.mp q) hl))) run_nil (cont_next run_nil))
  · exact ⟨_, _, rfl, Nat.le_refl _, left_turn hlen hs T (Nat.lt_succ_of_lt hsc)⟩
theorem asg25 {y p} : AsgT cx25 (E25 bs nm s sc []) (.Name "digit" p) y (E25 bs nm s sc [("digit", .fz y)]) := .name (by decide +kernel) (by kernel_rfl)
theorem run_left {d0 d1 d2 : Int} {l1 l2 l3 : List Int} (hlen : ∀ xs, FN ℓ "len" [.list xs] (.int (xs.length : Int))) (h0 : Rnd ℓ bs nm [0, 1, 2, 3] d0 P l1) (h1 : Rnd1 ℓ bs nm l1 d1 l2) (h2 : Rnd1 ℓ bs nm l2 d2 l3) :
    ∃ ρ', XS ℓ cx25 [("ballots", .fz (bsA bs)), ("names", .fz (.list nm)), ("digits", .fz (.list [.int d0, .int d1, .int d2]))] (bodyOf (nth 25)) (ρ', .ret (.tup [.list (l3.map .int), .list [.int (P 0), .int (P 1), .int (P 2), .int (P 3)]])) := by
  have hb : bodyOf (nth 25) = [stm 25 0, forD (stm 25 1), stm 25 2] := by kernel_rfl
  have e1 := left_turn (s := lfA [0, 1, 2, 3]) (sc := []) hlen rfl h0 (by decide)
  obtain ⟨s2, sc2, hs2, hc2, e2⟩ := left_round (nm := nm) (sc := [] ++ [.list ([0, 1, 2, 3].map fun c => AV.int (P c))]) (s := .own (l1.map .int)) hlen rfl h1 (by show 1 < 999; decide)
  obtain ⟨s3, sc3, hs3, hc3, e3⟩ := left_round (sc := [] ++ [.list ([0, 1, 2, 3].map fun c => AV.int (P c))] ++ sc2) hlen hs2 h2 (by rw [List.length_append]; exact Nat.lt_of_le_of_lt (Nat.add_le_add_left hc2 _) (by show 1 + 1 < 999; decide))
  have pre : SS ℓ cx25 [("ballots", .fz (bsA bs)), ("names", .fz (.list nm)), ("digits", .fz (.list [.int d0, .int d1, .int d2]))] (stm 25 0) ([("ballots", .fz (bsA bs)), ("names", .fz (.list nm)), ("digits", .fz (.list [.int d0, .int d1, .int d2])), ("left", .fz (.list [.int 0, .int 1, .int 2, .int 3])), ("scores", .own [])], .next) := by
    conv in (stm 25 0) => whnf
    with_reducible apply SS_asg
    walk_at "j"
    with_reducible apply asg_tup
    with_reducible apply tupN_plain
    walk_at "j"
    walk_at "j"
    walk_at "j"
    walk_at "j"
    exact put_cons (by decide +kernel) rfl (put_cons (by decide +kernel) rfl .nil)
  have hit : IT ℓ cx25 [("ballots", .fz (bsA bs)), ("names", .fz (.list nm)), ("digits", .fz (.list [.int d0, .int d1, .int d2])), ("left", .fz (.list [.int 0, .int 1, .int 2, .int 3])), ("scores", .own [])] (tgtOf (stm 25 1)) (itrOf (stm 25 1)) [.int d0, .int d1, .int d2] := by
    conv in (tgtOf _) => whnf
    conv in (itrOf _) => whnf
    walk_at "j"
  have hf : ForR ℓ cx25 (bodyOf (stm 25 1)) (tgtOf (stm 25 1)) [("ballots", .fz (bsA bs)), ("names", .fz (.list nm)), ("digits", .fz (.list [.int d0, .int d1, .int d2])), ("left", .fz (.list [.int 0, .int 1, .int 2, .int 3])), ("scores", .own [])] [.int d0, .int d1, .int d2] (E25 bs nm s3 ([] ++ [.list ([0, 1, 2, 3].map fun c => AV.int (P c))] ++ sc2 ++ sc3) [], .next) := by
    conv in (tgtOf _) => whnf
    exact .cons (.name (by decide +kernel) rfl) (XS.less _ e1 (by kernel_rfl)) (.cons asg25 e2 (.cons asg25 e3 .nil))
  have suf : ∃ ρ', XS ℓ cx25 (E25 bs nm s3 ([] ++ [.list ([0, 1, 2, 3].map fun c => AV.int (P c))] ++ sc2 ++ sc3) []) [stm 25 2] (ρ', .ret (.tup [.list (l3.map .int), .list [.int (P 0), .int (P 1), .int (P 2), .int (P 3)]])) := by
    conv in (stm 25 2) => whnf
    refine ⟨_, run_retE (ρ0 := [("ballots", .fz (bsA bs)), ("names", .fz (.list nm)), ("left", lfA l3), ("scores", .fz (.list (.list [.int (P 0), .int (P 1), .int (P 2), .int (P 3)] :: (sc2 ++ sc3))))]) (by rw [← hs3]; kernel_rfl) ?_⟩
    walk_at "j"
  obtain ⟨ρ', suf⟩ := suf
  rw [hb]
  exact ⟨ρ', run_cons pre (run_cons (SS_for (by kernel_rfl) hit hf) suf)⟩
end
theorem XS.frz {l : L} {cx : Cx} {ρ ρ0 : Ro} {b r} (ns : List Str) (hf : frzM ns ρ = ρ0) (h : XS l cx ρ0 b r) : XS l cx ρ b r := .mk fun f s a => by
  subst hf
  obtain ⟨O', Mu', st', a'⟩ := frz_ok ns a
  exact wpAny_mono (h.ok (f.up O' Mu') s (a'.weak fun n sl h => (frzM_look.trans frz_look.symm).symm.trans h)) (fun _ _ z => Ran.after a st' z) fun _ _ z => z
noncomputable abbrev cx26 : Cx := cxOf (nth 26)
noncomputable abbrev nmA (ns : List Str) : AV := .list (ns.map .str)
noncomputable def tg (x y : Str) : Str := Str.ofString "{" ++ x ++ Str.ofString "}" ++ y
noncomputable def prs (n0 n1 n2 n3 : Str) : List AV := [.str (tg n0 n1), .str (tg n0 n2), .str (tg n0 n3), .str (tg n1 n2), .str (tg n1 n3), .str (tg n2 n3)]
noncomputable def pr (N : Int → Str) : List Int → List AV
  | [b0, b1, b2, b3] => prs (N b0) (N b1) (N b2) (N b3)
  | _ => []
/-- a ballot of four, each a name of at most two signs -/
inductive Bal (ns : List Str) (N : Int → Str) : List Int → Prop
  | mk {b0 b1 b2 b3} : (∀ c ∈ [b0, b1, b2, b3], IdxOk (nmA ns) (.int c) (.str (N c)) ∧ (N c).length ≤ 2) → Bal ns N [b0, b1, b2, b3]
noncomputable abbrev E26 (bs : List (List Int)) (ns : List Str) (s : Sl) (r : Ro) : Ro := ("ballots", .fz (bsA bs)) :: ("names", .fz (nmA ns)) :: ("things", s) :: r
noncomputable abbrev thA (ts : List AV) : List AV := ts.map .thing
noncomputable def T26 (N : Int → Str) (bs : List (List Int)) : List AV := [.none, .str "a", .str "{aa}a"] ++ bs.flatMap (pr N)
noncomputable def rowT (ns : List Str) (C : Str → Str → List AV) (x : Str) : AV := .list (ns.map fun y => .int ((C x y).length : Int))
theorem str1 : (Str.ofString "{").length = 1 ∧ (Str.ofString "}").length = 1 ∧ (Str.ofString "}*").length = 2 ∧ (Str.ofString "{*}").length = 3 := by decide +kernel
theorem small {a b : Nat} (h : a ≤ b) (hb : decide (b ≤ 100) = true) : a ≤ sizeLine := Nat.le_trans h (Nat.le_trans (of_decide_eq_true hb) (by rw [sizeLine_eq]; decide))
section
variable {ℓ : L} {bs : List (List Int)} {ns : List Str} {N : Int → Str} {A : Str → List AV} {C : Str → Str → List AV}
theorem tag_sz {x y : Str} (hx : x.length ≤ 2) (hy : y.length ≤ 2) : (Str.ofString "{").length + x.length ≤ sizeLine ∧ (Str.ofString "{" ++ x).length + (Str.ofString "}").length ≤ sizeLine ∧ (Str.ofString "{" ++ x ++ Str.ofString "}").length + y.length ≤ sizeLine := by
  obtain ⟨e1, e2, -, -⟩ := str1
  rw [Str.length_append, Str.length_append, Str.length_append, e1, e2]
  exact ⟨small (Nat.add_le_add_left hx 1) rfl, small (Nat.add_le_add_right (Nat.add_le_add_left hx 1) 1) rfl, small (b := 6) (Nat.add_le_add (d := 2) (Nat.add_le_add_right (Nat.add_le_add_left hx 1) 1) hy) rfl⟩
theorem duels_turn {T : List AV} {b : List Int} (Tp : TopIs ℓ.h) (hth : ∀ t, FN ℓ "_law_thing" [t] (.thing t)) (hb : Bal ns N b) (hT : T.length ≤ 900) :
    XS ℓ cx26 (E26 bs ns (.own T) [("ballot", .fz (.list (b.map .int)))]) (bodyOf (stm 26 1)) (E26 bs ns (.own (T ++ thA (pr N b))) [("ballot", .fz (.list (b.map .int)))], .next) := by
  cases hb with
  | @mk b0 b1 b2 b3 h =>
    have h0 := h b0 (.head _)
    have h1 := h b1 (.tail _ (.head _))
    have h2 := h b2 (.tail _ (.tail _ (.head _)))
    have h3 := h b3 (.tail _ (.tail _ (.tail _ (.head _))))
    obtain ⟨p01, q01, r01⟩ := tag_sz h0.2 h1.2
    obtain ⟨-, -, r02⟩ := tag_sz h0.2 h2.2
    obtain ⟨-, -, r03⟩ := tag_sz h0.2 h3.2
    obtain ⟨p12, q12, r12⟩ := tag_sz h1.2 h2.2
    obtain ⟨-, -, r13⟩ := tag_sz h1.2 h3.2
    obtain ⟨p23, q23, r23⟩ := tag_sz h2.2 h3.2
    have i0 := h0.1
    have i1 := h1.1
    have i2 := h2.1
    have i3 := h3.1
    clear h h0 h1 h2 h3
    conv in (bodyOf _) => whnf
    show XS ℓ cx26 _ _ (E26 bs ns (.own (T ++ [.thing (.str (tg (N b0) (N b1))), .thing (.str (tg (N b0) (N b2))), .thing (.str (tg (N b0) (N b3))), .thing (.str (tg (N b1) (N b2))), .thing (.str (tg (N b1) (N b3))), .thing (.str (tg (N b2) (N b3)))])) [("ballot", .fz (.list ([b0, b1, b2, b3].map .int)))], .next)
    unfold tg
    walk_at "j"
end
section
variable {ℓ : L} {bs : List (List Int)} {ns : List Str} {N : Int → Str} {A B : Str → List AV} {C : Str → Str → List AV} {ts : List AV}
theorem asg26 {s : Sl} {y : AV} {p} : AsgT cx26 (E26 bs ns s []) (.Name "ballot" p) y (E26 bs ns s [("ballot", .fz y)]) := .name (by decide +kernel) rfl
theorem asg26b {s : Sl} {y z : AV} {p} : AsgT cx26 (E26 bs ns s [("ballot", .fz z)]) (.Name "ballot" p) y (E26 bs ns s [("ballot", .fz y)]) := .name (by decide +kernel) rfl
theorem prs_len : ∀ (b : List Int), (pr N b).length ≤ 6
  | [_, _, _, _] => Nat.le_refl _
  | [] | [_] | [_, _] | [_, _, _] | _ :: _ :: _ :: _ :: _ :: _ => Nat.zero_le _
theorem duels_for {q : Pos} (Tp : TopIs ℓ.h) (hth : ∀ t, FN ℓ "_law_thing" [t] (.thing t)) : ∀ (l : List (List Int)) (T : List AV), (∀ b ∈ l, Bal ns N b) → T.length + 6 * l.length ≤ 900 →
    ForR ℓ cx26 (bodyOf (stm 26 1)) (.Name "ballot" q) (E26 bs ns (.own T) []) (l.map fun b => .list (b.map .int)) (E26 bs ns (.own (T ++ thA (l.flatMap (pr N)))) [], .next)
  | [], T, _, _ => by rw [show T ++ thA ([].flatMap (pr N)) = T from List.append_nil _]; exact .nil
  | b :: l, T, hb, hl => by
    have h := duels_for (q := q) Tp hth l (T ++ thA (pr N b)) (fun b h => hb b (.tail _ h)) (by
      rw [List.length_append, List.length_map, Nat.add_assoc]
      exact Nat.le_trans (Nat.add_le_add_left (Nat.add_le_add_right (prs_len b) _) _) (by rw [Nat.add_comm 6]; exact hl))
    rw [List.append_assoc, ← List.map_append] at h
    exact .cons asg26 (XS.take (rest := [("ballot", .fz (.list (b.map .int)))]) (duels_turn Tp hth (hb b (.head _)) (Nat.le_trans (Nat.le_add_right _ _) hl))) h
/-- the names' selects -/
noncomputable def SelH (ℓ : L) (ns : List Str) (ts : List AV) (A : Str → List AV) (C : Str → Str → List AV) : Prop :=
  ∀ x ∈ ns, SLm ℓ (Str.ofString "{" ++ x ++ Str.ofString "}*") ts (A x) ∧ (A x).length ≤ 1000000 ∧ ∀ y ∈ ns, SLm ℓ (Str.ofString "{*}" ++ y) (A x) (C x y) ∧ (C x y).length ≤ 1000000
theorem table_turn {tb : List AV} {x : Str} (T : TopIs ℓ.h) (hlen : ∀ xs, FN ℓ.up "len" [.list xs] (.int (xs.length : Int))) (n1 : ∀ y ∈ ns, y.length ≤ 2) (n2 : ns.length ≤ 1000) (H : SelH ℓ ns ts A C) (hx : x ∈ ns) (htb : tb.length < 1000) :
    XS ℓ.up cx26 (E26 bs ns (.fz (.list ts)) [("table", .own tb), ("x", .fz (.str x))]) (bodyOf (stm 26 3)) (E26 bs ns (.fz (.list ts)) [("table", .own (tb ++ [rowT ns C x])), ("x", .fz (.str x))], .next) := by
  obtain ⟨s1, z1, h2⟩ := H x hx
  have s2 := fun y hy => (h2 y hy).1
  have z2 := fun y hy => (h2 y hy).2
  obtain ⟨e1, -, e2, e3⟩ := str1
  have w1 : (Str.ofString "{").length + x.length ≤ sizeLine := by rw [e1]; exact small (Nat.add_le_add_left (n1 x hx) 1) rfl
  have w2 : (Str.ofString "{" ++ x).length + (Str.ofString "}*").length ≤ sizeLine := by rw [Str.length_append, e1, e2]; exact small (Nat.add_le_add_right (Nat.add_le_add_left (n1 x hx) 1) 2) rfl
  have w3 : ∀ y ∈ ns, (Str.ofString "{*}").length + y.length ≤ sizeLine := fun y hy => by rw [e3]; exact small (Nat.add_le_add_left (n1 y hy) 3) rfl
  have hL : (ns.flatMap fun y => [AV.int ((C x y).length : Int)]).length ≤ 1000000 := flat_le (fun _ => Nat.le_refl _) ns n2 (by decide)
  rw [show rowT ns C x = .list (ns.flatMap fun y => [AV.int ((C x y).length : Int)]) from congrArg AV.list (flat_one _ _).symm]
  conv in (bodyOf _) => whnf
  refine XS.take (rest := [("above", .fz (.list (A x)))]) ?_
  show XS ℓ.up cx26 _ _ (E26 bs ns (.fz (.list ts)) [("table", .own (tb ++ [.list (ns.flatMap fun y => [AV.int ((C x y).length : Int)])])), ("x", .fz (.str x)), ("above", .fz (.list (A x)))], .next)
  clear h2 e1 e2 e3 n1
  walk_at "j"
theorem asg26x {s : Sl} {tb} {y : AV} {p} : AsgT cx26 (E26 bs ns s [("table", .own tb)]) (.Name "x" p) y (E26 bs ns s [("table", .own tb), ("x", .fz y)]) := .name (by decide +kernel) rfl
theorem table_for {q : Pos} (T : TopIs ℓ.h) (hlen : ∀ xs, FN ℓ.up "len" [.list xs] (.int (xs.length : Int))) (n1 : ∀ y ∈ ns, y.length ≤ 2) (n2 : ns.length ≤ 1000) (H : SelH ℓ ns ts A C) : ∀ (l : List Str) (tb : List AV), (∀ x ∈ l, x ∈ ns) → tb.length + l.length < 1000 →
    ForR ℓ.up cx26 (bodyOf (stm 26 3)) (.Name "x" q) (E26 bs ns (.fz (.list ts)) [("table", .own tb)]) (l.map .str) (E26 bs ns (.fz (.list ts)) [("table", .own (tb ++ l.map (rowT ns C)))], .next)
  | [], tb, _, _ => by rw [show tb ++ [].map (rowT ns C) = tb from List.append_nil _]; exact .nil
  | z :: l, tb, hl, hn => by
    have h := table_for (q := q) T hlen n1 n2 H l (tb ++ [rowT ns C z]) (fun b h => hl b (.tail _ h)) (by rw [List.length_append, Nat.add_assoc, Nat.add_comm _ l.length]; exact hn)
    rw [List.append_assoc] at h
    exact .cons asg26x (XS.take (rest := [("x", .fz (.str z))]) (table_turn T hlen n1 n2 H (hl z (.head _)) (Nat.lt_of_le_of_lt (Nat.le_add_right _ _) hn))) h
theorem run_duels (T : TopIs ℓ.h) (hlen : ∀ xs, FN ℓ.up "len" [.list xs] (.int (xs.length : Int))) (hth : ∀ t, FN ℓ.up "_law_thing" [t] (.thing t)) (hb : ∀ b ∈ bs, Bal ns N b) (hbl : bs.length ≤ 100)
    (n1 : ∀ y ∈ ns, y.length ≤ 2) (n2 : ns.length < 1000) (H : SelH ℓ ns (thA (T26 N bs)) A C) (s3 : ∀ y ∈ ns, SLm ℓ (Str.ofString "{*}" ++ y) (thA (T26 N bs)) (B y)) (z3 : ∀ y ∈ ns, (B y).length ≤ 1000000) :
    ∃ ρ', XS ℓ.up cx26 [("ballots", .fz (bsA bs)), ("names", .fz (nmA ns))] (bodyOf (nth 26)) (ρ', .ret (.tup [.list (ns.map (rowT ns C)), .list (ns.map fun y => .int ((B y).length : Int))])) := by
  have hbd : bodyOf (nth 26) = [stm 26 0, forD (stm 26 1), stm 26 2, forD (stm 26 3), stm 26 4] := by kernel_rfl
  have pre : SS ℓ.up cx26 [("ballots", .fz (bsA bs)), ("names", .fz (nmA ns))] (stm 26 0) (E26 bs ns (.own (thA [.none, .str "a", .str "{aa}a"])) [], .next) := by
    conv in (stm 26 0) => whnf
    show SS ℓ.up cx26 _ _ (E26 bs ns (.own [.thing .none, .thing (.str (Str.ofString "a")), .thing (.str (Str.ofString "{aa}a"))]) [], .next)
    walk_at "j"
  have e2 : SS ℓ.up cx26 (E26 bs ns (.fz (.list (thA (T26 N bs)))) []) (stm 26 2) (E26 bs ns (.fz (.list (thA (T26 N bs)))) [("table", .own [])], .next) := by
    conv in (stm 26 2) => whnf
    walk_at "j"
  have i1 : ∀ {s}, IT ℓ.up cx26 (E26 bs ns s []) (tgtOf (stm 26 1)) (itrOf (stm 26 1)) (bs.map fun b => .list (b.map .int)) := by
    intro s
    conv in (tgtOf _) => whnf
    conv in (itrOf _) => whnf
    walk_at "j"
  have i2 : ∀ {s}, IT ℓ.up cx26 (E26 bs ns s [("table", .own [])]) (tgtOf (stm 26 3)) (itrOf (stm 26 3)) (ns.map .str) := by
    intro s
    conv in (tgtOf _) => whnf
    conv in (itrOf _) => whnf
    walk_at "j"
  have f1 := duels_for (ℓ := ℓ.up) (bs := bs) (ns := ns) (q := { line := 198, col := 8, endLine := 198, endCol := 14 }) T hth bs (thA [.none, .str "a", .str "{aa}a"]) hb (Nat.le_trans (Nat.add_le_add_left (Nat.mul_le_mul_left 6 hbl) _) (by decide))
  have f2 := table_for (bs := bs) (C := C) (q := { line := 201, col := 8, endLine := 201, endCol := 9 }) T hlen n1 (Nat.le_of_lt n2) H ns [] (fun _ h => h) (by rw [List.length_nil, Nat.zero_add]; exact n2)
  rw [← List.map_append] at f1
  suffices h : ∃ ρ', XS ℓ.up cx26 (E26 bs ns (.fz (.list (thA (T26 N bs)))) [("table", .own (ns.map (rowT ns C)))]) [stm 26 4] (ρ', .ret (.tup [.list (ns.map (rowT ns C)), .list (ns.map fun y => .int ((B y).length : Int))])) by
    obtain ⟨ρ', h⟩ := h
    rw [hbd]
    exact ⟨ρ', run_cons pre (run_cons (SS_for (by kernel_rfl) i1 f1) (XS.frz ["things"] (by kernel_rfl) (run_cons e2 (run_cons (SS_for (by kernel_rfl) i2 f2) h))))⟩
  clear f1 f2 i1 i2 e2 pre hbd hb
  obtain ⟨-, -, -, e3⟩ := str1
  have w3 : ∀ y ∈ ns, (Str.ofString "{*}").length + y.length ≤ sizeLine := fun y hy => by rw [e3]; exact small (Nat.add_le_add_left (n1 y hy) 3) rfl
  have hL : (ns.flatMap fun y => [AV.int ((B y).length : Int)]).length ≤ 1000000 := flat_le (fun _ => Nat.le_refl _) ns (Nat.le_of_lt n2) (by decide)
  rw [← flat_one (fun y => AV.int ((B y).length : Int))]
  conv in (stm 26 4) => whnf
  clear H hth e3
  apply Exists.intro
  walk_at "j"
end
noncomputable abbrev cx27 : Cx := cxOf (nth 27)
noncomputable def Pw (b : Int) (ks : List Int) : Prop := ∀ k ∈ ks, (0 ≤ k ∧ k ≤ 1000000 ∧ b.natAbs < 2 ^ 63) ∧ b ^ k.toNat ≠ 0 ∧ (b ^ k.toNat).natAbs < 1073741824
noncomputable abbrev iA {α : Type} (f : α → Int) (l : List α) : List AV := l.flatMap fun k => [AV.int (f k)]
theorem iA_le {α : Type} (f : α → Int) {l : List α} (h : l.length ≤ 1000) : (iA f l).length ≤ 1000000 := flat_le (fun _ => Nat.le_refl _) l h (by decide)
section
variable {ℓ : L} {scr nm pA sA kA tb wn : AV} {c0 c1 c2 c3 q m mm bst : Int} {k3 k4 k5 k9 pl sp : List Int} {S V lt N P u : Int → Int} {bs : List (List Int)} {rest : List Stmt} {r : Ro × Fl}
noncomputable abbrev clA (c0 c1 c2 c3 : Int) : AV := .list [.int c0, .int c1, .int c2, .int c3]
theorem lawA (Tp : TopIs ℓ.h) (hc : FN ℓ "_law_cells" [scr] (clA c0 c1 c2 c3)) (hr : RgOk 0 4 (k4.map .int)) (hP : Pw 4 k4) (hl : k4.length ≤ 1000)
    (hS : ∀ k ∈ k4, FN ℓ "sum" [.list (sliceL (iA (fun k => 4 * (c0.fdiv (4 ^ k.toNat)).fmod 4) k4) none (some (k + 1)))] (.int (S k)))
    (k : XS ℓ cx27 [("cells", .fz (clA c0 c1 c2 c3)), ("places", .own (iA (fun k => S k + 4 * k) k4))] rest r) : XS ℓ cx27 [("script", .fz scr)] (stm 27 0 :: stm 27 1 :: stm 27 2 :: rest) r := by
  have z1 := iA_le (fun k : Int => 4 * (c0.fdiv (4 ^ k.toNat)).fmod 4) hl
  have z2 := iA_le (fun k : Int => S k + 4 * k) hl
  have h1 := fun k hk => (hP k hk).1
  have h2 := fun k hk => (hP k hk).2.1
  have h3 := fun k hk => (hP k hk).2.2
  have k' := XS.less (ρ := [("script", .fz scr), ("cells", .fz (clA c0 c1 c2 c3)), ("gaps", .fz (.list (iA (fun k => 4 * (c0.fdiv (4 ^ k.toNat)).fmod 4) k4))), ("places", .own (iA (fun k => S k + 4 * k) k4))]) _ k (by kernel_rfl)
  clear k hP
  conv in (stm 27 0) => whnf
  conv in (stm 27 1) => whnf
  conv in (stm 27 2) => whnf
  walk_at "j"
theorem lawB {pa : List AV} (Tp : TopIs ℓ.h) (hn : FN ℓ "_law_names" [.int (c0.fdiv 256)] nm) (hm : BinOk .Mod (.int c1) (.int 2) (.int q)) (hq : q.natAbs < 2 ^ 63) (hr : RgOk 0 (3 + q * 2) (k5.map .int)) (hr2 : RgOk 0 9 (k9.map .int)) (hP : Pw 32 k5) (hP2 : Pw 6 k9) (hl : k5.length ≤ 1000) (hl2 : k9.length ≤ 1000)
    (k : XS ℓ cx27 [("cells", .fz (clA c0 c1 c2 c3)), ("places", .own pa), ("names", .fz nm), ("count", .fz (.int (3 + q * 2))), ("spots", .own (iA (fun k => 1 + 2 * ((c1.fdiv 2).fdiv (32 ^ k.toNat)).fmod 32) k5)), ("kinds", .own (iA (fun k => ((c2.fdiv 128).fdiv (6 ^ k.toNat)).fmod 6) k9))] rest r) :
    XS ℓ cx27 [("cells", .fz (clA c0 c1 c2 c3)), ("places", .own pa)] (stm 27 3 :: stm 27 4 :: stm 27 5 :: stm 27 6 :: rest) r := by
  have z1 := iA_le (fun k : Int => 1 + 2 * ((c1.fdiv 2).fdiv (32 ^ k.toNat)).fmod 32) hl
  have z2 := iA_le (fun k : Int => ((c2.fdiv 128).fdiv (6 ^ k.toNat)).fmod 6) hl2
  have h1 := fun k hk => (hP k hk).1
  have h2 := fun k hk => (hP k hk).2.1
  have h3 := fun k hk => (hP k hk).2.2
  have g1 := fun k hk => (hP2 k hk).1
  have g2 := fun k hk => (hP2 k hk).2.1
  have g3 := fun k hk => (hP2 k hk).2.2
  clear hP hP2
  conv in (stm 27 3) => whnf
  conv in (stm 27 4) => whnf
  conv in (stm 27 5) => whnf
  conv in (stm 27 6) => whnf
  walk_at "j"
theorem lawC {ps sp kd L : List AV} {zs : List (Int × Int)} {V : Int × Int → Int} {n : AV} (Tp : TopIs ℓ.h) (hb : BinOk .Add (.list ps) (.list sp) (.list (ps ++ sp))) (hz : zipA (ps ++ sp) kd = zs.map fun p => .tup [.int p.1, .int p.2]) (hl : zs.length ≤ 1000)
    (hf : ∀ p ∈ zs, FN ℓ "_law_light" [.int (c2 + p.1), .int p.2] (.int (V p))) (hL : iA V zs = L) (hin : CmpOk .In .none (.list L) false)
    (k : XS ℓ cx27 [("cells", .fz (clA c0 c1 c2 c3)), ("places", .fz (.list ps)), ("names", .fz nm), ("count", .fz n), ("spots", .fz (.list sp)), ("lights", .fz (.list L))] rest r) :
    XS ℓ cx27 [("cells", .fz (clA c0 c1 c2 c3)), ("places", .own ps), ("names", .fz nm), ("count", .fz n), ("spots", .own sp), ("kinds", .own kd)] (stm 27 7 :: stm 27 8 :: rest) r := by
  have z1 := iA_le V hl
  have k' := XS.less (ρ := [("cells", .fz (clA c0 c1 c2 c3)), ("places", .fz (.list ps)), ("names", .fz nm), ("count", .fz n), ("spots", .fz (.list sp)), ("kinds", .fz (.list kd)), ("lights", .fz (.list L))]) _ k (by kernel_rfl)
  subst hL
  clear k
  conv in (stm 27 7) => whnf
  conv in (stm 27 8) => whnf
  walk_at "j"
theorem lawD {ps L l4 : List AV} {B : Int → List Int} {n : AV} (Tp : TopIs ℓ.h) (h4 : sliceL L (some 4) none = sp.map fun s => .int (lt s)) (h0 : sliceL L none (some 4) = l4) (hl : sp.length ≤ 1000) (hf : ∀ s ∈ sp, FN ℓ "_law_ballot" [.int (lt s), .list l4] (.list ((B s).map .int)))
    (k : XS ℓ cx27 [("cells", .fz (clA c0 c1 c2 c3)), ("places", .fz (.list ps)), ("names", .fz nm), ("count", .fz n), ("spots", .fz sA), ("ballots", .own (sp.flatMap fun s => [AV.list ((B s).map .int)]))] rest r) :
    XS ℓ cx27 [("cells", .fz (clA c0 c1 c2 c3)), ("places", .fz (.list ps)), ("names", .fz nm), ("count", .fz n), ("spots", .fz sA), ("lights", .fz (.list L))] (stm 27 9 :: rest) r := by
  have z1 : (sp.flatMap fun s => [AV.list ((B s).map .int)]).length ≤ 1000000 := flat_le (fun _ => Nat.le_refl _) sp hl (by decide)
  have k' := XS.less (ρ := [("cells", .fz (clA c0 c1 c2 c3)), ("places", .fz (.list ps)), ("names", .fz nm), ("count", .fz n), ("spots", .fz sA), ("lights", .fz (.list L)), ("ballots", .own (sp.flatMap fun s => [AV.list ((B s).map .int)]))]) _ k (by kernel_rfl)
  clear k
  conv in (stm 27 9) => whnf
  walk_at "j"
end
section
variable {ℓ : L} {nm pA sA tb wn bA lfv : AV} {c0 c1 c2 c3 n m mm bst : Int} {k3 k4 pl sp : List Int} {N : Int → Str} {w P : Int → Int} {e : Int → Bool} {rest : List Stmt} {r : Ro × Fl}
theorem lawE {rows : List (List Int)} {bh wl : List AV} {sm : List Int → Int} {bl : List AV} (Tp : TopIs ℓ.h) (hd : FN ℓ "_law_duels" [.list bl, nm] (.tup [.list (rows.map fun r => .list (r.map .int)), .list bh])) (hsum : ∀ r ∈ rows, FN ℓ "sum" [.list (r.map .int)] (.int (sm r))) (hl : rows.length ≤ 1000)
    (hwl : iA (fun r => n + sm r) rows = wl) (hr : RgOk 0 4 (k4.map .int)) (hl4 : k4.length ≤ 1000) (hw : ∀ c ∈ k4, IdxOk (.list wl) (.int c) (.int (w c))) (hN : ∀ c ∈ k4, IdxOk nm (.int c) (.str (N c))) (he : ∀ c ∈ k4, CmpOk .Eq (.str (N c)) (.str "a") (e c))
    (hne : CmpOk .NotEq (.list bh) (.list (iA (fun c => 4 * n - w c + (if e c = true then 2 else 0)) k4)) false)
    (k : XS ℓ cx27 [("cells", .fz (clA c0 c1 c2 c3)), ("places", .fz pA), ("names", .fz nm), ("count", .fz (.int n)), ("spots", .fz sA), ("ballots", .fz (.list bl)), ("table", .fz (.list (rows.map fun r => .list (r.map .int)))), ("won", .fz (.list wl))] rest r) :
    XS ℓ cx27 [("cells", .fz (clA c0 c1 c2 c3)), ("places", .fz pA), ("names", .fz nm), ("count", .fz (.int n)), ("spots", .fz sA), ("ballots", .own bl)] (stm 27 10 :: stm 27 11 :: stm 27 12 :: rest) r := by
  have z1 := iA_le (fun r => n + sm r) hl
  have z2 := iA_le (fun c => 4 * n - w c + (if e c = true then 2 else 0)) hl4
  have k' := XS.less (ρ := [("cells", .fz (clA c0 c1 c2 c3)), ("places", .fz pA), ("names", .fz nm), ("count", .fz (.int n)), ("spots", .fz sA), ("ballots", .fz (.list bl)), ("table", .fz (.list (rows.map fun r => .list (r.map .int)))), ("behind", .fz (.list bh)), ("won", .fz (.list wl))]) _ k (by kernel_rfl)
  subst hwl
  clear k
  conv in (stm 27 10) => whnf
  conv in (stm 27 11) => whnf
  conv in (stm 27 12) => whnf
  walk_at "j"
theorem lawF {so ps : List AV} (Tp : TopIs ℓ.h) (hs : FN ℓ "sorted" [sA] (.list so)) (hi : IdxOk (.list so) (.int (n.fdiv 2)) (.int m)) (hr : RgOk 0 4 (k4.map .int)) (hl4 : k4.length ≤ 1000) (hP : ∀ c ∈ k4, IdxOk (.list ps) (.int c) (.int (P c))) (habs : ∀ i, FN ℓ "abs" [.int i] (.int (absI i)))
    (hmn : FN ℓ "min" [.list (k4.flatMap fun c => [.tup [.int (absI (m - P c)), .int c]])] (.tup [.int mm, .int bst])) (hr3 : RgOk 0 3 (k3.map .int)) (hl3 : k3.length ≤ 1000) (hPw : Pw 21 k3) (hlf : FN ℓ "_law_left" [bA, nm, .list (iA (fun k => (c3.fdiv (21 ^ k.toNat)).fmod 21) k3)] lfv) (hne : CmpOk .NotEq lfv (.tup [.list [.int bst], wn]) false)
    (k : XS ℓ cx27 [("places", .fz (.list ps)), ("spots", .fz sA), ("table", .fz tb)] rest r) :
    XS ℓ cx27 [("cells", .fz (clA c0 c1 c2 c3)), ("places", .fz (.list ps)), ("names", .fz nm), ("count", .fz (.int n)), ("spots", .fz sA), ("ballots", .fz bA), ("table", .fz tb), ("won", .fz wn)] (stm 27 13 :: stm 27 14 :: stm 27 15 :: rest) r := by
  have z1 : (k4.flatMap fun c => [AV.tup [.int (absI (m - P c)), .int c]]).length ≤ 1000000 := flat_le (fun _ => Nat.le_refl _) k4 hl4 (by decide)
  have z2 := iA_le (fun k : Int => (c3.fdiv (21 ^ k.toNat)).fmod 21) hl3
  have h1 := fun k hk => (hPw k hk).1
  have h2 := fun k hk => (hPw k hk).2.1
  have h3 := fun k hk => (hPw k hk).2.2
  have k' := XS.less (ρ := [("cells", .fz (clA c0 c1 c2 c3)), ("places", .fz (.list ps)), ("names", .fz nm), ("count", .fz (.int n)), ("spots", .fz sA), ("ballots", .fz bA), ("table", .fz tb), ("won", .fz wn), ("middle", .fz (.int m)), ("best", .fz (.int bst))]) _ k (by kernel_rfl)
  clear k hPw
  conv in (stm 27 13) => whnf
  conv in (stm 27 14) => whnf
  conv in (stm 27 15) => whnf
  walk_at "j"
noncomputable abbrev nearL (sp : List Int) (one two : Int) : List AV := sp.flatMap fun s => if decide (absI (s - one) < absI (s - two)) = true then [AV.int s] else []
theorem lawG (hlen : ∀ xs, FN ℓ "len" [.list xs] (.int (xs.length : Int))) (habs : ∀ i, FN ℓ "abs" [.int i] (.int (absI i))) (hp : pl.length ≤ 1000) (hs : sp.length ≤ 1000) (heq : CmpOk .Eq tb (.list (pl.flatMap fun one => [.list (iA (fun two => ((nearL sp one two).length : Int)) pl)])) true) :
    ∃ ρ', XS ℓ cx27 [("places", .fz (.list (pl.map .int))), ("spots", .fz (.list (sp.map .int))), ("table", .fz tb)] [stm 27 16] (ρ', .ret (.bool true)) := by
  have z1 : ∀ one two : Int, (nearL sp one two).length ≤ 1000000 := fun one two => flat_le (fun x => one_le (c := fun s => decide (absI (s - one) < absI (s - two))) (f := AV.int) x) sp hs (by decide)
  have z2 := fun one => iA_le (fun two => ((nearL sp one two).length : Int)) hp
  have z3 : (pl.flatMap fun one => [AV.list (iA (fun two => ((nearL sp one two).length : Int)) pl)]).length ≤ 1000000 := flat_le (fun _ => Nat.le_refl _) pl hp (by decide)
  conv in (stm 27 16) => whnf
  apply Exists.intro
  walk_at "j"
end
noncomputable abbrev d0 : Ent := (0, "", 0, [])
noncomputable def gnE : Ent := (12, "_iter_escaped_chars", 71, ["addr"])
noncomputable def prE : Ent := (15, "_prepare_tag", 85, ["tag"])
noncomputable abbrev Fd (h : Heap) (t : Ent) (gn : Bool) (fd : FuncData) : Prop := FnIs h t.2.2.1 fd (bodyOf (nth t.1)) t.2.2.2 gn ∧ fd.scope = scopeOf (nth t.1)
noncomputable def FAt (h : Heap) (t : Ent) (gn : Bool) : Prop := GlobIs h t.2.1 (.ref t.2.2.1) ∧ ∃ fd, Fd h t gn fd
noncomputable def fltL : List (Str × UInt64) := [("ONE_THIRD", c13), ("ONE_SIXTH", c16), ("TWO_THIRD", c23)]
/-- what the walks know of the program's heap -/
structure Site (h : Heap) : Prop where
  lim : h.NoLimit
  glo : ∀ p ∈ gloL, GlobIs h p.1 p.2
  flt : ∀ p ∈ fltL, ∃ t, GlobIs h p.1 (.float p.2 t)
  twin : GlobIs h "_twin_re_1" (.ref 36)
  selc : GlobIs h "_SelectorContext" (.ref CA)
  pat : PatIs h
  cls : ClsIs h 99
  defh : DefHead h 84
  prep : GlobIs h "_prepare_tag" (.ref 85) ∧ ∃ fd, Fd h prE false fd ∧ fd.code = .ref 84 ∧ fd.qualname = ("_prepare_tag" : Str)
  gen : FAt h gnE true
  fns : ∀ t ∈ fnL, FAt h t false
theorem mem_at {α : Type} {l : List α} (j : Nat) {x : α} (h : l[j]? = some x) : x ∈ l := List.mem_of_getElem? h
section
variable {l : L}
theorem Site.b (S : Site l.h) (j : Nat) {x : Str} {b : String} {as r} (h : gloL[j]? = some (x, .builtin b)) (k : FnOk l (.builtin b) as r) : FN l x as r := ⟨_, S.glo _ (mem_at j h), .inl ⟨_, rfl⟩, k⟩
theorem Site.top (S : Site l.h) : TopIs l.h := ⟨S.lim, S.glo _ (mem_at 10 rfl), S.glo _ (mem_at 11 rfl), S.glo _ (mem_at 12 rfl), S.glo _ (mem_at 13 rfl)⟩
theorem Site.at_ (S : Site l.h) (j : Nat) {i x a ps as r ρ'} (h : fnL[j]? = some (i, x, a, ps)) (hl : ps.length = as.length) (hr : XS l (cxOf (nth i)) (ps.zip (as.map .fz)) (bodyOf (nth i)) (ρ', .ret r)) : FN l.up x as r := by
  obtain ⟨g, fd, F, hs⟩ := S.fns _ (mem_at j h)
  obtain ⟨o, h1, h2⟩ := F.obj
  exact ⟨_, g, .inr (.inr ⟨a, o, fd, rfl, F.ta, h1, h2⟩), fn_ok F S.lim hl (by rw [show fnCx fd = cxOf (nth i) by unfold cxOf; rw [← hs]]; exact hr)⟩
theorem Site.len (S : Site l.h) (xs : List AV) : FN l "len" [.list xs] (.int (xs.length : Int)) := S.b 0 rfl fn_len_list
theorem Site.lenS (S : Site l.h) (s : Str) : FN l "len" [.str s] (.int (s.length : Int)) := S.b 0 rfl fn_len_str
theorem Site.abs (S : Site l.h) (i : Int) : FN l "abs" [.int i] (.int (absI i)) := S.b 1 rfl fn_abs
theorem Site.max (S : Site l.h) (a b : Int) : FN l "max" [.int a, .int b] (.int (maxI a b)) := S.b 3 rfl fn_max2
theorem Site.min (S : Site l.h) (a b : Int) : FN l "min" [.int a, .int b] (.int (minI a b)) := S.b 4 rfl fn_min2
theorem Site.gc (S : Site l.h) : GcF l := by
  obtain ⟨t1, h1⟩ := S.flt _ (mem_at 0 rfl)
  obtain ⟨t2, h2⟩ := S.flt _ (mem_at 1 rfl)
  obtain ⟨t3, h3⟩ := S.flt _ (mem_at 2 rfl)
  exact ⟨⟨_, h1, fun h O => ⟨_, rfl⟩⟩, ⟨_, h2, fun h O => ⟨_, rfl⟩⟩, ⟨_, h3, fun h O => ⟨_, rfl⟩⟩⟩
theorem Site.v (S : Site l.h) (a b c : UInt64) : FN l.up "_v" [.flt a, .flt b, .flt c] (.flt (vF a b c)) := let ⟨_, h⟩ := run_v S.gc; S.at_ 3 rfl rfl h
theorem Site.hls (S : Site l.h) (a b c : UInt64) : FN l.up.up "hls_to_rgb" [.flt a, .flt b, .flt c] (tri (hlsF a b c)) := let ⟨_, h⟩ := run_hls (ℓ := l.up) (Site.gc (l := l.up) S) S.v; Site.at_ (l := l.up) S 2 rfl rfl h
theorem Site.light (S : Site l.h) {p κ : Int} (h0 : 0 ≤ κ) (h1 : κ < 6) : FN l.up.up.up "_law_light" [.int p, .int κ] (.int (p.fmod 128 * 2 ^ 23)) :=
  let ⟨_, h⟩ := light_ok (ℓ := l.up.up) (Site.max (l := l.up.up) S) (Site.min (l := l.up.up) S) (fun a b c => Site.b (l := l.up.up) S 4 rfl fn_min3) S.hls (fun r g b t ht => FN.up (let ⟨_, h⟩ := run_rgb (fun a b c => S.b 3 rfl fn_max3f) (fun a b c => S.b 4 rfl fn_min3f) ht; S.at_ 1 rfl rfl h))
    (fun x h => Site.b (l := l.up.up) S 2 rfl (by
      unfold finF at h
      simp only [Bool.and_eq_true, Bool.not_eq_true'] at h
      exact fn_round h.1.1 h.1.2 h.2)) (p := p) h0 h1
  Site.at_ (l := l.up.up) S 8 rfl rfl h
theorem Site.names (S : Site l.h) (n : Int) : FN l.up "_law_names" [.int n] (.list ((nmOf n).map .str)) := let ⟨_, h⟩ := run_names l n; S.at_ 7 rfl rfl h
theorem Site.cells (S : Site l.h) {ns : List Int} (hn : ns.length < 64) : ∃ c0 c1 c2 c3 : Int, FN l.up "_law_cells" [.list (ns.map .int)] (.list [.int c0, .int c1, .int c2, .int c3]) :=
  let ⟨_, c0, c1, c2, c3, h⟩ := run_cells S.top S.len hn; ⟨c0, c1, c2, c3, S.at_ 5 rfl rfl h⟩
end
noncomputable def quo (x : Str) : Bool := !decide (34 ∈ x.cps.toList)
theorem quo_ni {x : Str} : CmpOk .NotIn (.str "\"") (.str x) (!!quo x) := by
  rw [← show (Builtin.Str.occurrences x qt 0 x.length 1).isEmpty = quo x from empty_one x 34]
  exact cmp_niS
theorem run_strip0 {ℓ : L} {addr : Str} (hq : quo addr = true) : ∃ ρ', XS ℓ (cxOf (nth 13)) [("addr", .fz (.str addr))] (bodyOf (nth 13)) (ρ', .ret (.str addr)) := by
  have hni : CmpOk .NotIn (.str "\"") (.str addr) true := by
    have h : CmpOk .NotIn (.str "\"") (.str addr) (!!quo addr) := quo_ni
    rw [hq] at h; exact h
  conv in (bodyOf _) => whnf
  apply Exists.intro
  walk_at "j"
noncomputable def itT (x : Str) : List (Int × Str) := itP false 0 0 x.cps.toList
noncomputable def jn (ts : List Str) : Str := Txt.join "" ts
noncomputable def stripT (x : Str) : Str := if quo x then x else jn (stripL x (itT x))
noncomputable def stripC (x : Str) : Bool := quo x || (asciiS x && !(itT x).isEmpty && (itT x).all (fun e => PyData.strOk e.2) && decide ((itT x).length < 999998) && JoinOk "" (stripL x (itT x)))
section
variable {l : L}
theorem Site.iter (S : Site l.h) {x : Str} (h : asciiS x = true) : GF l.up "_iter_escaped_chars" [.str x] ((itT x).map itM) := by
  obtain ⟨ρ', hr⟩ := run_iter (ℓ := l) S.top h
  obtain ⟨g, fd, F, hs⟩ := S.gen
  obtain ⟨o, h1, h2⟩ := F.obj
  exact ⟨_, g, .inr (.inr ⟨_, o, fd, rfl, F.ta, h1, h2⟩), fun A s O vs g r => gen_make F S.lim rfl (by rw [show fnCx fd = cx12 from congrArg (fun sc => Cx.mk sc (ownOf sc)) hs]; exact hr) g r⟩
theorem Site.strip (S : Site l.h) {x : Str} (h : stripC x = true) : FN l.up.up "_strip_quoted_realnames" [.str x] (.str (stripT x)) := by
  unfold stripC at h
  unfold stripT
  cases hq : quo x
  · have hni : CmpOk .NotIn (.str "\"") (.str x) false := by
      have h : CmpOk .NotIn (.str "\"") (.str x) (!!quo x) := quo_ni
      rw [hq] at h; exact h
    rw [hq] at h
    simp only [Bool.false_or, Bool.and_eq_true, Bool.not_eq_true', decide_eq_true_eq] at h
    obtain ⟨⟨⟨⟨h1, h2⟩, h3⟩, h4⟩, h5⟩ := h
    have hi := S.iter h1
    generalize itT x = y at hi h2 h3 h4 h5
    cases y with
    | nil => cases h2
    | cons e es =>
      obtain ⟨ρ', hr⟩ := run_strip (ℓ := l.up) (e := e) (es := es) (r := jn (stripL x (e :: es))) (Site.top (l := l.up) S) hni (Site.lenS (l := l.up) S x) hi (List.all_eq_true.mp h3) (Nat.lt_of_succ_lt h4) (m_join h5)
      exact Site.at_ (l := l.up) S 4 rfl rfl hr
  · obtain ⟨ρ', hr⟩ := run_strip0 (ℓ := l.up) hq
    exact Site.at_ (l := l.up) S 4 rfl rfl hr
end
/-- what is heard: signs, and whether they are left -/
noncomputable abbrev Q := List (Str × Bool)
noncomputable def qW (q : Q) : List Str := q.map fun x => if x.2 = true then x.1 else Str.ofString "\"" ++ x.1 ++ Str.ofString "\""
noncomputable def qTx (q : Q) : Str := jn (qW q) ++ "\"a\"\"\\"
noncomputable def qS (q : Q) : List Str := (q.filter (·.2)).map (·.1)
noncomputable def qP (q : Q) : Str := Txt.replace (qTx q) "\"" ""
noncomputable def qR (q : Q) : Str := stripT (qTx q)
/-- a heard text's check -/
structure HeardC (q : Q) : Prop where
  a : JoinOk "" (qW q) = true ∧ (jn (qW q)).length + (Str.ofString "\"a\"\"\\").length ≤ sizeLine ∧ stripC (qTx q) = true ∧ ((qTx q).length + ((qTx q).length + 1) * (Str.ofString "").length ≤ 16777216 ∧ (qP q).length ≤ sizeLine)
  b : asciiS (qR q) = true ∧ JoinOk "" (qS q) = true ∧ (jn (qS q)).length + (Str.ofString "\"\\").length ≤ sizeLine ∧ qR q = jn (qS q) ++ Str.ofString "\"\\" ∧ PyData.strOk (qR q) = true
  c : itT (qR q) = dueF 0 (qS q ++ [qt, bsl]) ∧ (∀ e ∈ itT (qR q), PyData.strOk e.2 = true)
  d : stripC (qP q) = true ∧ stripT (qP q) = qP q ∧ PyData.strOk (qP q) = true ∧ 2 ≤ (itT (qR q)).length ∧ (itT (qR q)).length ≤ 1000 ∧ ((itT (qR q)).take ((itT (qR q)).length - 2)).map (·.2) = qS q
noncomputable def nmAt (i : Nat) : List Str := namesS (i % 4) (i / 4 % 3) (i / 12 % 2)
noncomputable def nmL : List (List Str) := (List.range 24).map nmAt
theorem nm_in (n : Int) : nmOf n ∈ nmL := by
  obtain ⟨a, b, c, ha, hb, hc, e4, e3, e2⟩ := names_cases n
  rw [show nmOf n = namesS a b c by unfold nmOf; rw [e4, e3, e2]; rfl]
  exact names_all a ha b hb c hc
noncomputable def Nn (ns : List Str) (c : Int) : Str := ns.getD c.toNat ⟨#[]⟩
noncomputable def qOf (ns : List Str) (lf b : List Int) : Q := b.map fun c => (Nn ns c, lf.contains c)
theorem sl_m2 {l : List AV} (h : 2 ≤ l.length) : sliceL l none (some (-2)) = l.take (l.length - 2) := by
  unfold sliceL
  show (l.drop 0).take (clipAt l.length (-2) - 0) = _
  rw [List.drop_zero, Nat.sub_zero]
  congr 1
  unfold clipAt
  rw [if_pos (by decide)]
  obtain ⟨m, e⟩ := Nat.exists_eq_add_of_le h
  rw [e, show (-2 : Int) + ((2 + m : Nat) : Int) = m from Int.neg_add_cancel_left 2 m, Int.min_eq_left (Int.ofNat_le.mpr (Nat.le_add_left m 2)), Int.max_eq_right (Int.natCast_nonneg m), Int.toNat_natCast, Nat.add_sub_cancel_left]
theorem filter_map_q (ns : List Str) (lf : List Int) (b : List Int) : (b.flatMap fun c => if lf.contains c = true then [AV.str (Nn ns c)] else []) = (qS (qOf ns lf b)).map .str := by
  rw [flat_if (fun c => AV.str (Nn ns c))]
  unfold qS qOf
  rw [List.filter_map, List.map_map, List.map_map]
  rfl
theorem quote_map_q (ns : List Str) (lf : List Int) (b : List Int) : (b.flatMap fun c => [if lf.contains c = true then AV.str (Nn ns c) else AV.str (Str.ofString "\"" ++ Nn ns c ++ Str.ofString "\"")]) = (qW (qOf ns lf b)).map .str := by
  rw [flat_one (fun c => if lf.contains c = true then AV.str (Nn ns c) else AV.str (Str.ofString "\"" ++ Nn ns c ++ Str.ofString "\""))]
  unfold qW qOf
  rw [List.map_map, List.map_map]
  exact List.map_congr_left fun c _ => (apply_ite AV.str _ _ _).symm
theorem itM_DA {e : Int × Str} (h : PyData.strOk e.2 = true) : DA 1 (itM e) (.tuple [.int e.1, .str e.2]) := .tup (.cons .int (.cons (.str h) .nil))
section
variable {l : L} {ns : List Str} {lf b : List Int}
theorem Site.heard (S : Site l.h) (C : HeardC (qOf ns lf b)) (hix : ∀ c ∈ b, IdxOk (.list (ns.map .str)) (.int c) (.str (Nn ns c))) (hN : ∀ c, (Nn ns c).length ≤ 2) (hb : b.length ≤ 4) :
    FN l.up.up.up "_law_heard" [.list (b.map .int), .list (lf.map .int), .list (ns.map .str)] (.list ((qS (qOf ns lf b)).map .str)) := by
  obtain ⟨h1, h2, h3, h4⟩ := C.a
  obtain ⟨h6, h7, h8, h9, h10⟩ := C.b
  obtain ⟨h11, h12⟩ := C.c
  obtain ⟨h13, h14, h15, h16, h17, h18⟩ := C.d
  have e1 : (Str.ofString "\"").length = 1 := by decide +kernel
  have hss : (qS (qOf ns lf b)).length ≤ 1000 := by
    unfold qS qOf
    rw [List.length_map]
    exact Nat.le_trans (List.length_filter_le _ _) (by rw [List.length_map]; exact Nat.le_trans hb (by decide))
  have hps : ((itT (qR (qOf ns lf b))).take ((itT (qR (qOf ns lf b))).length - 2)).length ≤ 1000 := by
    rw [List.length_take]
    exact Nat.le_trans (Nat.min_le_right _ _) h17
  have h19 : PyData.strOk (stripT (qP (qOf ns lf b))) = true := by rw [h14]; exact h15
  obtain ⟨ρ', hr⟩ := run_heard (ℓ := l.up.up) (bl := b) (lf := lf) (nm := ns.map .str) (N := Nn ns) (Site.top (l := l) S) hix (fun c _ => cmp_inI) (fun c => by rw [e1]; exact small (Nat.add_le_add_left (hN c) 1) rfl) (fun c => by rw [Str.length_append, e1]; exact small (Nat.add_le_add_right (Nat.add_le_add_left (hN c) 1) 1) rfl) (Nat.le_trans hb (by decide))
    (by rw [quote_map_q]; exact m_join h1) h2 (filter_map_q ns lf b) (fun s => Site.lenS (l := l.up.up) S s) hss (S.strip h3) h4 (S.iter h6).up (by rw [List.length_map]; exact Nat.le_trans h17 (by decide)) (m_join h7) h8 (cmp_neR (n := 0) (congrArg AV.str h9) (.str h10) (Nat.zero_le _))
    (cmp_neR (n := 2) (by rw [h11]) (.list (.map fun e he => itM_DA (h12 e he))) (by decide)) ((S.strip h13)) (cmp_neR (n := 0) (congrArg AV.str h14) (.str h19) (Nat.zero_le _)) (by rw [sl_m2 (by rw [List.length_map]; exact h16), List.length_map, List.map_take]) hps
  rw [show (fun x : Int × Str => AV.str x.2) = AV.str ∘ Prod.snd from rfl, ← List.map_map, h18] at hr
  exact Site.at_ (l := l.up.up) S 10 rfl rfl hr
end
section
open PySem.StrLaws PySem.Builtin.Str
noncomputable def sT (l : List Nat) : Str := ⟨l.toArray⟩
theorem sT_list (l : List Nat) : (sT l).cps.toList = l := rfl
theorem sT_len (l : List Nat) : (sT l).length = l.length := by
  show l.toArray.size = _
  rw [List.size_toArray]
theorem sT_app (a b : List Nat) : sT a ++ sT b = sT (a ++ b) := Str.ext' (by show a.toArray ++ b.toArray = _; simp [sT])
theorem sT_of (x : Str) : x = sT x.cps.toList := Str.ext' (by simp [sT])
theorem empty_eq : (("" : Str)) = Str.empty := by decide +kernel
theorem join_empty : ∀ ts : List Str, Str.join "" ts = sT (ts.flatMap (·.cps.toList))
  | [] => by rw [List.flatMap_nil]; rfl
  | [x] => by
    rw [List.flatMap_cons, List.flatMap_nil, List.append_nil]
    exact sT_of x
  | x :: y :: r => by
    show x ++ "" ++ Str.join "" (y :: r) = _
    rw [join_empty (y :: r), empty_eq, Str.append_empty, List.flatMap_cons (x := x), ← sT_app, ← sT_of x]
theorem jn_eq (ts : List Str) : jn ts = sT (ts.flatMap (·.cps.toList)) := by
  unfold jn
  show glued "" ts = _
  rw [glued_eq_join, join_empty]
theorem joinOk_of {ts : List Str} {B : Nat} (hB : ∀ y ∈ ts, y.length ≤ B) (h : ts.length * B ≤ 16777216) : JoinOk "" ts = true := by
  unfold JoinOk
  rw [joinFits hB (by
    have e : (("" : Str)).length = 0 := by decide +kernel
    rw [e, Nat.mul_zero]; omega)]
  rfl
noncomputable def crlf : Str := "\r\n"
theorem crlf_list : crlf.cps.toList = [13, 10] := by decide +kernel
theorem crlf_len : crlf.length = 2 := by decide +kernel
noncomputable def lineT (r : List Nat) : List Nat := r ++ [13, 10]
theorem at_iff {x : Str} {i : Nat} : StrLaws.At x crlf x.length i ↔ (x.cps.toList.drop i).take 2 = [13, 10] := by
  unfold StrLaws.At
  rw [subAt_eq, crlf_len, crlf_list, beq_iff_eq]
  constructor
  · exact fun h => h.2
  · intro h
    refine ⟨?_, h⟩
    have := congrArg List.length h
    rw [List.length_take, List.length_drop] at this
    have e : x.length = x.cps.toList.length := by simp [Str.length]
    rw [e]
    simp only [List.length_cons, List.length_nil] at this
    omega
theorem parts_rows {x : Str} : ∀ (rs : List (List Nat)) (a : Nat) (cuts : List Nat) (f : Nat), (∀ r ∈ rs, 13 ∉ r) → x.cps.toList.drop a = rs.flatMap lineT → a ≤ x.length → ChainG x crlf x.length a cuts f → (∀ k, f ≤ k → ¬ StrLaws.At x crlf x.length k) → partsFrom x 2 a cuts = rs.map sT ++ [sT []]
  | [], a, cuts, f, _, hx, ha, hc, hf => by
    rw [List.flatMap_nil] at hx
    cases cuts with
    | nil =>
      show [strSub x a x.length] = _
      rw [List.map_nil, List.nil_append]
      congr 1
      refine Str.ext' ?_
      refine Array.toList_inj.mp ?_
      rw [strSub_toList, hx, List.take_nil]; rfl
    | cons c r =>
      have h1 := at_iff.mp hc.2.1
      have hac := hc.1
      have : x.cps.toList.drop c = [] := by
        have e : c = a + (c - a) := by omega
        rw [e, ← List.drop_drop, hx, List.drop_nil]
      rw [this] at h1
      cases h1
  | r :: rs, a, cuts, f, hr, hx, ha, hc, hf => by
    rw [List.flatMap_cons] at hx
    have hAt : StrLaws.At x crlf x.length (a + r.length) := by
      refine at_iff.mpr ?_
      rw [← List.drop_drop, hx]
      unfold lineT
      rw [List.append_assoc, List.drop_left]
      rfl
    have hno : ∀ k, a ≤ k → k < a + r.length → ¬ StrLaws.At x crlf x.length k := by
      intro k h1 h2 h3
      have h3 := at_iff.mp h3
      have e : k = a + (k - a) := by omega
      rw [e, ← List.drop_drop, hx] at h3
      have h4 := congrArg List.head? h3
      rw [List.head?_take, if_neg (by decide), List.head?_drop, List.head?_cons] at h4
      have h5 : (lineT r ++ rs.flatMap lineT)[k - a]? = r[k - a]? := by
        unfold lineT
        rw [List.append_assoc, List.getElem?_append_left (by omega)]
      rw [h5] at h4
      exact hr r List.mem_cons_self (List.mem_of_getElem? h4)
    cases cuts with
    | nil =>
      have : f = a := hc
      exact absurd hAt (hf _ (by omega))
    | cons c cs =>
      obtain ⟨c1, c2, c3, c4⟩ := hc
      have hc' : c = a + r.length := by
        rcases Nat.lt_trichotomy c (a + r.length) with h | h | h
        · exact absurd c2 (hno c c1 h)
        · exact h
        · exact absurd hAt (c3 _ (by omega) h)
      subst hc'
      have hlen := hAt.1
      rw [crlf_len] at hlen c4
      show strSub x a (a + r.length) :: partsFrom x 2 (a + r.length + 2) cs = _
      rw [List.map_cons, List.cons_append, parts_rows rs (a + r.length + 2) cs f (fun r' h => hr r' (List.mem_cons_of_mem _ h)) ?_ hlen c4 hf]
      · congr 1
        refine Str.ext' ?_
        refine Array.toList_inj.mp ?_
        rw [strSub_toList, hx, show a + r.length - a = r.length by omega]
        unfold lineT
        rw [List.append_assoc, List.take_left]
        rfl
      · rw [show a + r.length + 2 = a + (r.length + 2) by omega, ← List.drop_drop, hx]
        have : (lineT r).length = r.length + 2 := by unfold lineT; rw [List.length_append]; rfl
        rw [← this, List.drop_left]
theorem split_rows {rs : List (List Nat)} (h : ∀ r ∈ rs, 13 ∉ r) : splitA (sT (rs.flatMap lineT)) crlf = rs.map sT ++ [sT []] := by
  obtain ⟨f, h1, h2⟩ := occ_tight (sT (rs.flatMap lineT)) crlf (by rw [crlf_len]; decide)
  unfold splitA
  rw [partsBetween_eq, crlf_len]
  exact parts_rows rs 0 _ f h (by rw [List.drop_zero]; rfl) (Nat.zero_le _) h1 h2
theorem kind_crlf : Builtin.Str.strKind crlf = 1 := by decide +kernel
theorem kind_ge (x : Str) : 1 ≤ Builtin.Str.strKind x := by
  unfold Builtin.Str.strKind
  split
  · exact Nat.le_refl _
  · split <;> decide
theorem splitOk_rows {rs : List (List Nat)} (h : ∀ r ∈ rs, 13 ∉ r) (hn : rs ≠ []) (hl : rs.length ≤ 1000) (hr : ∀ r ∈ rs, r.length ≤ 1000) : splitOk (sT (rs.flatMap lineT)) crlf = true := by
  have hs := split_rows h
  have e1 : ¬ (sT (rs.flatMap lineT)).length < 2 := by
    cases rs with
    | nil => exact absurd rfl hn
    | cons r rs' =>
      rw [sT_len, List.flatMap_cons, List.length_append]
      unfold lineT
      rw [List.length_append, Nat.not_lt, Nat.add_right_comm]
      exact Nat.le_add_left _ _
  have e3 : (occurrences (sT (rs.flatMap lineT)) crlf 0 (sT (rs.flatMap lineT)).length ((sT (rs.flatMap lineT)).length + 1)).isEmpty = false := by
    have hs := hs
    unfold splitA at hs
    revert hs
    cases occurrences (sT (rs.flatMap lineT)) crlf 0 (sT (rs.flatMap lineT)).length ((sT (rs.flatMap lineT)).length + 1) with
    | nil =>
      intro hs
      have := congrArg List.length hs
      rw [List.length_append, List.length_map] at this
      exact absurd (List.length_eq_zero_iff.mp (Nat.succ.inj this).symm) hn
    | cons c cs => exact fun _ => rfl
  unfold splitOk
  rw [hs, crlf_len, kind_crlf, decide_eq_false e1, decide_eq_false (Nat.not_lt.mpr (kind_ge _)), e3]
  refine Bool.and_eq_true_iff.mpr ⟨decide_eq_true ?_, List.all_eq_true.mpr fun p hp => decide_eq_true ?_⟩
  · rw [List.length_append, List.length_map, List.length_singleton, sizeLine_eq]
    exact Nat.le_trans (Nat.add_le_add_right hl 1) (by decide)
  · rcases List.mem_append.mp hp with hp | hp
    · obtain ⟨q, hq, rfl⟩ := List.mem_map.mp hp
      rw [sT_len, sizeLine_eq]
      exact Nat.le_trans (hr q hq) (by decide)
    · rw [List.mem_singleton.mp hp, sT_len]; exact Nat.zero_le _
end
section
open PySem.StrLaws PySem.Builtin.Str
theorem slice_from {a b : List Nat} : Txt.slice (sT (a ++ b)) (some ((sT a).length : Int)) none = sT b := by
  have h := StrLaws.sliceText_from (x := sT (a ++ b)) (i := ((sT a).length : Int)) ⟨Int.natCast_nonneg _, by rw [sT_list, sT_len, List.length_append]; exact Int.ofNat_le.mpr (Nat.le_add_right _ _)⟩
  refine (show Txt.slice _ _ _ = StrLaws.sliceText _ _ _ from rfl).trans (h.trans ?_)
  rw [sT_list, sT_len, Int.toNat_natCast, List.drop_left]
  exact congrArg sT (List.take_of_length_le (by rw [List.length_append, Int.toNat_sub, Nat.add_sub_cancel_left]; exact Nat.le_refl _))
theorem slice_mid {a b c : List Nat} : Txt.slice (sT (a ++ b ++ c)) (some (a.length : Nat)) (some ((a.length + b.length : Nat) : Int)) = sT b := by
  refine (show Txt.slice _ _ _ = StrLaws.sliceText _ _ _ from rfl).trans ((StrLaws.sliceText_nat (sT (a ++ b ++ c)) (Nat.le_add_right _ _) (by rw [sT_len, List.length_append, List.length_append]; exact Nat.le_add_right _ _)).trans ?_)
  rw [sT_list, List.append_assoc, List.drop_left, Nat.add_sub_cancel_left, List.take_left]; rfl
/-- signs and marks, one behind the other -/
noncomputable def tokL : List Str := qt :: signL
noncomputable def fl (ts : List Str) : List Nat := ts.flatMap (·.cps.toList)
theorem fl_nil : fl [] = [] := rfl
theorem fl_cons (x : Str) (ts : List Str) : fl (x :: ts) = x.cps.toList ++ fl ts := List.flatMap_cons
theorem fl_app (a b : List Str) : fl (a ++ b) = fl a ++ fl b := List.flatMap_append
theorem it_p {p i : Int} {n : Nat} : ∀ l : List Nat, itP false p n l = itP false i n l
  | [] => rfl
  | _ :: _ => rfl
theorem it_tok {x : Str} (hx : x ∈ tokL) (i : Nat) (R : List Nat) : itP false 0 i (x.cps.toList ++ R) = ((i : Int) + x.length - 1, x) :: itP false 0 (i + x.length) R := by
  have one : ∀ c : Nat, (c == 92) = false → itP false 0 i (c :: R) = ((i : Int) + 1 - 1, chS c) :: itP false 0 (i + 1) R := fun c h => by
    show stepP false i c ++ itP (!false && c == 92) i (i + 1) R = _
    unfold stepP
    rw [h, Int.add_sub_cancel]
    exact congrArg (List.cons _) (it_p R)
  have two : ∀ c : Nat, itP false 0 i (92 :: c :: R) = ((i : Int) + 2 - 1, bsl ++ chS c) :: itP false 0 (i + 2) R := fun c => by
    show [] ++ (stepP true (i + 1) c ++ itP (!true && c == 92) (i + 1 : Nat) (i + 2) R) = _
    unfold stepP
    rw [show ((i : Int) + 2 - 1) = ((i + 1 : Nat) : Int) by omega]
    exact congrArg (List.cons _) (it_p R)
  have h : x = qt ∨ x = "a" ∨ x = "\\a" ∨ x = "\\\"" ∨ x = "\\\\" := by
    simpa only [tokL, signL, List.mem_cons, List.not_mem_nil, or_false] using hx
  rcases h with rfl | rfl | rfl | rfl | rfl
  · exact one 34 rfl
  · exact one 97 rfl
  · exact two 97
  · exact two 34
  · exact two 92
theorem it_due : ∀ (ts : List Str) (i : Nat), (∀ x ∈ ts, x ∈ tokL) → itP false 0 i (fl ts ++ [92]) = dueF i (ts ++ [bsl])
  | [], i, _ => by
    show [] ++ [((i : Int), bsl)] = [((i : Int) + (1 : Nat) - 1, bsl)]
    rw [show (i : Int) + (1 : Nat) - 1 = i by omega]; rfl
  | x :: ts, i, h => by
    rw [fl_cons, List.append_assoc, it_tok (h x (.head _)), it_due ts _ fun y hy => h y (.tail _ hy)]
    rfl
theorem dueF_app : ∀ (a b : List Str) (i : Nat), dueF i (a ++ b) = dueF i a ++ dueF ((i + (fl a).length : Nat) : Int) b
  | [], b, i => rfl
  | x :: a, b, i => by
    show (_ :: dueF ((i : Int) + x.length) (a ++ b)) = _ :: (dueF ((i : Int) + x.length) a ++ _)
    rw [show (i : Int) + x.length = ((i + x.length : Nat) : Int) from rfl, dueF_app a b, fl_cons, List.length_append, ← Nat.add_assoc]; rfl
/-- what is written: a sign that is left, or one between marks -/
noncomputable def tkW (x : Str × Bool) : List Str := if x.2 = true then [x.1] else [qt, x.1, qt]
noncomputable def tkQ (q : Q) : List Str := q.flatMap tkW
theorem kept_ne {x : Str} (h : x ∈ signL) : (x == qt) = false :=
  List.all_eq_true.mp (show signL.all (fun x => !(x == qt)) = true by decide +kernel) x h |> fun e => by simpa using e
theorem qt_len : qt.length = 1 := by decide +kernel
theorem qt_list : qt.cps.toList = [34] := by decide +kernel
theorem len_list (x : Str) : x.cps.toList.length = x.length := Array.length_toList
theorem fold_kept {addr x : Str} {p : Int} {st : StS} {es : List (Int × Str)} (h : x ∈ signL) : ((p, x) :: es).foldl (stN addr) st = es.foldl (stN addr) st := by
  rw [List.foldl_cons]
  unfold stN
  rw [kept_ne h]; rfl
theorem fold_open {addr : Str} {p s : Int} {ys : List Str} {es : List (Int × Str)} : ((p, qt) :: es).foldl (stN addr) ⟨s, none, ys⟩ = es.foldl (stN addr) ⟨s, some p, ys⟩ := by
  rw [List.foldl_cons]
  unfold stN
  rw [BEq.rfl]; rfl
theorem fold_close {addr : Str} {p s o : Int} {ys : List Str} {es : List (Int × Str)} : ((p, qt) :: es).foldl (stN addr) ⟨s, some o, ys⟩ = es.foldl (stN addr) ⟨p + 1, none, cond (s == o) ys (ys ++ [Txt.slice addr (some s) (some o)])⟩ := by
  rw [List.foldl_cons]
  unfold stN
  rw [BEq.rfl]; rfl
/-- the strip's run over what is written -/
theorem strip_run {addr : Str} {R : List Str} {Z : List Nat} : ∀ (q : Q) (P K : List Nat) (ys : List Str), (∀ x ∈ q, x.1 ∈ signL) → addr = sT (P ++ K ++ (fl (tkQ q) ++ Z)) →
    ∃ P' K' ys', (dueF ((P.length + K.length : Nat) : Int) (tkQ q ++ R)).foldl (stN addr) ⟨(P.length : Nat), none, ys⟩ = (dueF ((P'.length + K'.length : Nat) : Int) R).foldl (stN addr) ⟨(P'.length : Nat), none, ys'⟩ ∧
      P' ++ K' = P ++ K ++ fl (tkQ q) ∧ fl ys' ++ K' = fl ys ++ K ++ fl (qS q) ∧ ys'.length ≤ ys.length + q.length
  | [], P, K, ys, _, _ => ⟨P, K, ys, rfl, (List.append_nil _).symm, (List.append_nil _).symm, Nat.le_refl _⟩
  | (x, true) :: q, P, K, ys, h, ha => by
    have hx := h _ (.head _)
    have hq : fl (tkQ ((x, true) :: q)) = x.cps.toList ++ fl (tkQ q) := fl_cons x (tkQ q)
    have ha' : addr = sT (P ++ (K ++ x.cps.toList) ++ (fl (tkQ q) ++ Z)) := by rw [ha, hq, List.append_assoc, List.append_assoc, List.append_assoc, List.append_assoc]
    obtain ⟨P', K', ys', e1, e2, e3, e4⟩ := strip_run q P (K ++ x.cps.toList) ys (fun y hy => h y (.tail _ hy)) ha'
    refine ⟨P', K', ys', ?_, ?_, ?_, Nat.le_succ_of_le e4⟩
    · rw [← e1, show tkQ ((x, true) :: q) ++ R = x :: (tkQ q ++ R) from rfl]
      show ((_, x) :: dueF _ _).foldl _ _ = _
      rw [fold_kept hx, List.length_append, len_list, ← Nat.add_assoc]; rfl
    · rw [e2, hq, ← List.append_assoc, ← List.append_assoc]
    · rw [e3, show fl (qS ((x, true) :: q)) = x.cps.toList ++ fl (qS q) from fl_cons x (qS q), ← List.append_assoc, ← List.append_assoc]
  | (x, false) :: q, P, K, ys, h, ha => by
    have hx := h _ (.head _)
    have ht : tkQ ((x, false) :: q) = qt :: x :: qt :: tkQ q := rfl
    have hq : fl (tkQ ((x, false) :: q)) = 34 :: (x.cps.toList ++ 34 :: fl (tkQ q)) := by rw [ht, fl_cons, fl_cons, fl_cons, qt_list]; rfl
    have hq2 : P ++ K ++ fl (tkQ ((x, false) :: q)) = P ++ K ++ 34 :: (x.cps.toList ++ [34]) ++ [] ++ fl (tkQ q) := by
      rw [hq, List.append_nil, List.append_assoc (P ++ K), List.cons_append, List.append_assoc x.cps.toList]; rfl
    have ha' : addr = sT ((P ++ K ++ 34 :: (x.cps.toList ++ [34])) ++ [] ++ (fl (tkQ q) ++ Z)) := by rw [ha, ← List.append_assoc, hq2, List.append_assoc _ (fl (tkQ q))]
    obtain ⟨P', K', ys', e1, e2, e3, e4⟩ := strip_run q (P ++ K ++ 34 :: (x.cps.toList ++ [34])) [] (cond (((P.length : Nat) : Int) == ((P.length + K.length : Nat) : Int)) ys (ys ++ [sT K])) (fun y hy => h y (.tail _ hy)) ha'
    have hf : fl (cond (((P.length : Nat) : Int) == ((P.length + K.length : Nat) : Int)) ys (ys ++ [sT K])) = fl ys ++ K := by
      cases K with
      | nil => rw [List.length_nil, Nat.add_zero, BEq.rfl]; exact (List.append_nil _).symm
      | cons c K =>
        rw [show (((P.length : Nat) : Int) == ((P.length + (c :: K).length : Nat) : Int)) = false from beq_eq_false_iff_ne.mpr (by rw [List.length_cons]; omega)]
        exact (fl_app _ _).trans (congrArg _ (List.append_nil _))
    refine ⟨P', K', ys', ?_, ?_, ?_, ?_⟩
    · rw [← e1, ht]
      show ((_, qt) :: (_, x) :: (_, qt) :: dueF _ _).foldl _ _ = _
      rw [fold_open, fold_kept hx, fold_close, qt_len]
      have hs : Txt.slice addr (some (P.length : Nat)) (some (((P.length + K.length : Nat) : Int) + (1 : Nat) - 1)) = sT K := by
        rw [show ((P.length + K.length : Nat) : Int) + (1 : Nat) - 1 = ((P.length + K.length : Nat) : Int) by omega, ha]
        exact slice_mid
      rw [hs, show ((P.length + K.length : Nat) : Int) + (1 : Nat) - 1 = ((P.length + K.length : Nat) : Int) by omega]
      have hp : (P ++ K ++ 34 :: (x.cps.toList ++ [34])).length = P.length + K.length + 1 + x.length + 1 := by
        rw [List.length_append, List.length_append, List.length_cons, List.length_append, len_list, List.length_singleton]; omega
      rw [hp, List.length_nil, Nat.add_zero, show ((P.length + K.length : Nat) : Int) + (1 : Nat) + x.length + (1 : Nat) - 1 + 1 = ((P.length + K.length + 1 + x.length + 1 : Nat) : Int) by omega]
      rfl
    · rw [e2, hq2]
    · rw [e3, hf, List.append_nil]; rfl
    · refine Nat.le_trans e4 ?_
      rw [List.length_cons]
      cases ((P.length : Nat) : Int) == ((P.length + K.length : Nat) : Int)
      · show (ys ++ [sT K]).length + _ ≤ _
        rw [List.length_append]; exact Nat.le_of_eq (Nat.add_right_comm _ _ _)
      · exact Nat.add_le_add_left (Nat.le_succ _) _
theorem tok_lt : ∀ x ∈ tokL, (∀ c ∈ x.cps.toList, c < 128) ∧ x.length ≤ 2 ∧ PyData.strOk x = true := by decide +kernel
theorem asc_of {l : List Nat} (h : ∀ c ∈ l, c < 128) : asciiS (sT l) = true := by
  unfold asciiS
  exact Array.all_eq_true_iff_forall_mem.mpr fun c hc => decide_eq_true (h c (List.mem_toArray.mp hc))
theorem strOk_sT {l : List Nat} (h : ∀ c ∈ l, c < 128) : PyData.strOk (sT l) = true := by
  unfold PyData.strOk
  exact Array.all_eq_true_iff_forall_mem.mpr fun c hc => decide_eq_true (Nat.lt_trans (h c (List.mem_toArray.mp hc)) (by decide))
theorem fl_lt {ts : List Str} (h : ∀ x ∈ ts, x ∈ tokL) : ∀ c ∈ fl ts, c < 128 := fun c hc => by
  obtain ⟨x, hx, hc⟩ := List.mem_flatMap.mp hc
  exact (tok_lt x (h x hx)).1 c hc
theorem fl_len : ∀ {ts : List Str}, (∀ x ∈ ts, x ∈ tokL) → (fl ts).length ≤ 2 * ts.length
  | [], _ => Nat.le_refl _
  | x :: ts, h => by
    rw [fl_cons, List.length_append, len_list, List.length_cons, Nat.mul_add, Nat.add_comm]
    exact Nat.add_le_add (fl_len fun y hy => h y (.tail _ hy)) (tok_lt x (h x (.head _))).2.1
theorem mem_fl : ∀ {ts : List Str} {y : Str}, y ∈ ts → y.length ≤ (fl ts).length
  | x :: ts, y, h => by
    rw [fl_cons, List.length_append, len_list]
    rcases List.mem_cons.mp h with rfl | h
    · exact Nat.le_add_right _ _
    · exact Nat.le_trans (mem_fl h) (Nat.le_add_left _ _)
theorem due_mem : ∀ {ts : List Str} {i : Int} {e : Int × Str}, e ∈ dueF i ts → e.2 ∈ ts
  | x :: ts, i, e, h => by
    rcases List.mem_cons.mp h with rfl | h
    · exact .head _
    · exact .tail _ (due_mem h)
theorem due_len : ∀ {ts : List Str} {i : Int}, (dueF i ts).length = ts.length
  | [], _ => rfl
  | _ :: _, _ => congrArg (· + 1) due_len
theorem due_snd : ∀ {ts : List Str} {i : Int}, (dueF i ts).map (·.2) = ts
  | [], _ => rfl
  | _ :: _, _ => congrArg (List.cons _) due_snd
theorem due_strOk {ts : List Str} {i : Int} (h : ∀ x ∈ ts, x ∈ tokL) : ∀ e ∈ dueF i (ts ++ [bsl]), PyData.strOk e.2 = true := fun e he => by
  rcases List.mem_append.mp (due_mem he) with h1 | h1
  · exact (tok_lt _ (h _ h1)).2.2
  · rw [List.mem_singleton.mp h1]; decide +kernel
theorem joinOk_fl {ts : List Str} (h : (fl ts).length ≤ 100) (hn : ts.length ≤ 100) : JoinOk "" ts = true :=
  joinOk_of (B := 100) (fun y hy => Nat.le_trans (mem_fl hy) h) (Nat.le_trans (Nat.mul_le_mul_right 100 hn) (by decide))
theorem jn_len (ts : List Str) : (jn ts).length = (fl ts).length := by rw [jn_eq, sT_len]; rfl
theorem tkQ_tok {q : Q} (h : ∀ x ∈ q, x.1 ∈ signL) : ∀ x ∈ tkQ q, x ∈ tokL := fun x hx => by
  obtain ⟨y, hy, hx⟩ := List.mem_flatMap.mp hx
  unfold tkW at hx
  split at hx
  · rw [List.mem_singleton.mp hx]; exact .tail _ (h y hy)
  · simp only [List.mem_cons, List.not_mem_nil, or_false] at hx
    rcases hx with rfl | rfl | rfl
    · exact .head _
    · exact .tail _ (h y hy)
    · exact .head _
theorem tkQ_len : ∀ q : Q, (tkQ q).length ≤ 3 * q.length
  | [] => Nat.le_refl _
  | x :: q => by
    rw [show tkQ (x :: q) = tkW x ++ tkQ q from rfl, List.length_append, List.length_cons, Nat.mul_add, Nat.add_comm]
    refine Nat.add_le_add (tkQ_len q) ?_
    unfold tkW
    split
    · exact (by decide : 1 ≤ 3 * 1)
    · exact Nat.le_refl _
theorem fl_W : ∀ q : Q, fl (qW q) = fl (tkQ q)
  | [] => rfl
  | x :: q => by
    rw [show tkQ (x :: q) = tkW x ++ tkQ q from rfl, fl_app, ← fl_W q, show qW (x :: q) = (if x.2 = true then x.1 else Str.ofString "\"" ++ x.1 ++ Str.ofString "\"") :: qW q from rfl, fl_cons]
    refine congrArg (· ++ fl (qW q)) ?_
    unfold tkW
    split
    · exact (List.append_nil _).symm
    · rw [show (Str.ofString "\"" : Str) = qt from rfl, Str.cps_append, Str.cps_append, Array.toList_append, Array.toList_append, List.append_assoc]
      exact congrArg (fun z => qt.cps.toList ++ (x.1.cps.toList ++ z)) (List.append_nil _).symm
noncomputable def endL : List Str := [qt, "a", qt, qt]
theorem end_list : (Str.ofString "\"a\"\"\\") = sT (fl endL ++ [92]) ∧ (Str.ofString "\"\\") = sT [34, 92] ∧ (Str.ofString "\"a\"\"\\").length = 5 ∧ (Str.ofString "\"\\").length = 2 ∧ (Str.ofString "").length = 0 ∧ (∀ x ∈ endL, x ∈ tokL) ∧ fl [qt] = [34] := by decide +kernel
theorem heard_ok {q : Q} (hq : ∀ x ∈ q, x.1 ∈ signL) (hl : q.length ≤ 4) : HeardC q := by
  obtain ⟨z1, z2, z3, z4, z5, z6, z7⟩ := end_list
  have hT : ∀ x ∈ tkQ q ++ endL, x ∈ tokL := fun x hx => (List.mem_append.mp hx).elim (tkQ_tok hq x) (z6 x)
  have hS : ∀ x ∈ qS q ++ [qt], x ∈ tokL := fun x hx => (List.mem_append.mp hx).elim (fun h => by
    obtain ⟨y, hy, rfl⟩ := List.mem_map.mp h
    exact .tail _ (hq y (List.mem_filter.mp hy).1)) fun h => by rw [List.mem_singleton.mp h]; exact .head _
  have nT : (tkQ q ++ endL).length ≤ 16 := by
    rw [List.length_append]
    exact Nat.add_le_add_right (Nat.le_trans (tkQ_len q) (Nat.mul_le_mul_left 3 hl)) 4
  have nS : (qS q).length ≤ 4 := by
    unfold qS
    rw [List.length_map]
    exact Nat.le_trans (List.length_filter_le _ _) hl
  have fT := Nat.le_trans (fl_len hT) (Nat.mul_le_mul_left 2 nT)
  have fS : (fl (qS q ++ [qt])).length ≤ 10 := Nat.le_trans (fl_len hS) (by rw [List.length_append, List.length_singleton]; omega)
  have fQ : (fl (tkQ q)).length ≤ 32 := by rw [fl_app, List.length_append] at fT; exact Nat.le_trans (Nat.le_add_right _ _) fT
  have fK : (fl (qS q)).length ≤ 10 := by rw [fl_app, List.length_append] at fS; exact Nat.le_trans (Nat.le_add_right _ _) fS
  have aT := fl_lt hT
  have aS := fl_lt hS
  have l92 : ∀ {l : List Nat}, (∀ c ∈ l, c < 128) → ∀ c ∈ l ++ [92], c < 128 := fun h c hc => (List.mem_append.mp hc).elim (h c) fun h => by rw [List.mem_singleton.mp h]; decide
  have eT : qTx q = sT (fl (tkQ q ++ endL) ++ [92]) := by
    unfold qTx
    rw [jn_eq, show (qW q).flatMap (·.cps.toList) = fl (tkQ q) from fl_W q, z1, sT_app, fl_app, List.append_assoc]
  have nTx : (qTx q).length ≤ 33 := by rw [eT, sT_len, List.length_append]; exact Nat.add_le_add_right fT 1
  have iT : itT (qTx q) = dueF 0 (tkQ q ++ endL ++ [bsl]) := by rw [eT]; exact it_due _ 0 hT
  have uT : quo (qTx q) = false := by
    unfold quo
    rw [eT, sT_list, Bool.not_eq_false', decide_eq_true_eq, fl_app]
    exact List.mem_append_left _ (List.mem_append_right _ (.head _))
  -- the strip
  have hq' : ∀ x ∈ q ++ [((Str.ofString "a"), false)], x.1 ∈ signL := fun x hx => (List.mem_append.mp hx).elim (hq x) fun h => by rw [List.mem_singleton.mp h]; exact .head _
  have tq' : tkQ (q ++ [((Str.ofString "a"), false)]) = tkQ q ++ [qt, "a", qt] := by unfold tkQ; rw [List.flatMap_append]; rfl
  have sq' : qS (q ++ [((Str.ofString "a"), false)]) = qS q := by unfold qS; rw [List.filter_append]; exact congrArg _ (List.append_nil _)
  have eA : qTx q = sT ([] ++ [] ++ (fl (tkQ (q ++ [((Str.ofString "a"), false)])) ++ [34, 92])) := by
    rw [eT, tq', show tkQ q ++ endL = tkQ q ++ [qt, "a", qt] ++ [qt] by rw [List.append_assoc]; rfl, fl_app _ [qt], z7, List.append_assoc]; rfl
  obtain ⟨P, K, ys, e1, e2, e3, e4⟩ := strip_run (addr := qTx q) (R := [qt, bsl]) (Z := [34, 92]) _ [] [] [] hq' eA
  have eP : qTx q = sT (P ++ (K ++ [34, 92])) := by rw [eA, ← List.append_assoc ([] ++ []), ← e2, List.append_assoc]
  have sL : stripL (qTx q) (itT (qTx q)) = ys ++ [sT (K ++ [34, 92])] := by
    have hf : (itT (qTx q)).foldl (stN (qTx q)) ⟨0, none, []⟩ = ⟨(P.length : Nat), some ((P.length + K.length : Nat) : Int), ys⟩ := by
      rw [iT, show tkQ q ++ endL ++ [bsl] = tkQ (q ++ [((Str.ofString "a"), false)]) ++ [qt, bsl] by rw [tq', List.append_assoc, List.append_assoc]; rfl]
      refine e1.trans ?_
      show ((_, qt) :: dueF _ [bsl]).foldl _ _ = _
      rw [fold_open, qt_len, show ((P.length + K.length : Nat) : Int) + (1 : Nat) - 1 = ((P.length + K.length : Nat) : Int) by omega]
      rfl
    unfold stripL
    rw [hf]
    show (if ((P.length : Nat) : Int) < ((qTx q).length : Nat) then ys ++ [Txt.slice (qTx q) (some (P.length : Nat)) none] else ys) = _
    rw [if_pos (by rw [eP, sT_len, List.length_append, List.length_append]; exact Int.ofNat_lt.mpr (Nat.lt_add_of_pos_right (Nat.succ_pos _))), eP, ← sT_len P, slice_from]
  have fL : fl (ys ++ [sT (K ++ [34, 92])]) = fl (qS q) ++ [34, 92] := by
    rw [fl_app, fl_cons, fl_nil, List.append_nil, sT_list, ← List.append_assoc, e3, sq']; rfl
  have eR : qR q = sT (fl (qS q ++ [qt]) ++ [92]) := by
    unfold qR stripT
    rw [uT, sL, jn_eq, show (ys ++ [sT (K ++ [34, 92])]).flatMap (·.cps.toList) = _ from fL, fl_app, z7, List.append_assoc]; rfl
  have iR : itT (qR q) = dueF 0 (qS q ++ [qt, bsl]) := by
    rw [eR]
    refine (it_due _ 0 hS).trans ?_
    rw [List.append_assoc]; rfl
  have lR : (itT (qR q)).length = (qS q).length + 2 := by rw [iR, due_len, List.length_append]; rfl
  have eP' : qP q = sT ((fl (tkQ q ++ endL) ++ [92]).filter (· != 34)) := by
    refine (congrArg Str.mk (Array.ext' (replace_strikes (qTx q) 34)) : qP q = ⟨((qTx q).cps.toList.filter (· != 34)).toArray⟩).trans ?_
    rw [eT]; rfl
  have uP : quo (qP q) = true := by
    unfold quo
    rw [eP', sT_list, Bool.not_eq_true', decide_eq_false_iff_not]
    exact fun h => by have := (List.mem_filter.mp h).2; simp at this
  have nP : (qP q).length ≤ 33 := by
    rw [eP', sT_len]
    exact Nat.le_trans (List.length_filter_le _ _) (by rw [List.length_append]; exact Nat.add_le_add_right fT 1)
  have sl : ∀ {n : Nat}, n ≤ 100 → n ≤ sizeLine := fun h => Nat.le_trans h (by rw [sizeLine_eq]; decide)
  have dS : ∀ e ∈ itT (qR q), PyData.strOk e.2 = true := by
    rw [iR, show qS q ++ [qt, bsl] = qS q ++ [qt] ++ [bsl] by rw [List.append_assoc]; rfl]
    exact due_strOk hS
  refine ⟨⟨joinOk_fl (by rw [fl_W]; exact Nat.le_trans fQ (by decide)) (by unfold qW; rw [List.length_map]; exact Nat.le_trans hl (by decide)), sl (by rw [jn_len, fl_W, z3]; exact Nat.le_trans (Nat.add_le_add_right fQ 5) (by decide)), ?_, by rw [z5, Nat.mul_zero]; exact Nat.le_trans nTx (by decide), sl (Nat.le_trans nP (by decide))⟩,
    ⟨by rw [eR]; exact asc_of (l92 aS), joinOk_fl (Nat.le_trans fK (by decide)) (Nat.le_trans nS (by decide)), sl (by rw [jn_len, z4]; exact Nat.le_trans (Nat.add_le_add_right fK 2) (by decide)), ?_, by rw [eR]; exact strOk_sT (l92 aS)⟩, ⟨iR, dS⟩, ?_⟩
  · unfold stripC
    rw [uT, sL, iT, eT, asc_of (l92 aT), joinOk_fl (by rw [fL, List.length_append]; exact Nat.le_trans (Nat.add_le_add_right fK 2) (by decide)) (by rw [List.length_append]; rw [List.length_append] at e4; exact Nat.le_trans (Nat.add_le_add_right e4 1) (by simp only [List.length_nil, List.length_singleton]; omega)), List.all_eq_true.mpr (due_strOk hT), decide_eq_true (by rw [due_len, List.length_append]; exact Nat.lt_of_le_of_lt (Nat.add_le_add_right nT 1) (by decide))]
    rw [show (dueF 0 (tkQ q ++ endL ++ [bsl])).isEmpty = false by
      cases h : dueF 0 (tkQ q ++ endL ++ [bsl]) with
      | nil => have := congrArg List.length h; rw [due_len, List.length_append] at this; cases this
      | cons _ _ => rfl]
    rfl
  · rw [eR, jn_eq, z2, sT_app, fl_app, z7, List.append_assoc]; rfl
  · refine ⟨by unfold stripC; rw [uP]; rfl, by unfold stripT; rw [uP]; rfl, ?_, by rw [lR]; exact Nat.le_add_left _ _, by rw [lR]; exact Nat.le_trans (Nat.add_le_add_right nS 2) (by decide), ?_⟩
    · rw [eP']
      exact strOk_sT fun c hc => l92 aT c (List.mem_filter.mp hc).1
    · rw [lR, Nat.add_sub_cancel, iR, List.map_take, due_snd, List.take_left]
end
noncomputable def rowN (m : Nat) (x : Str) : List Nat := List.replicate m 46 ++ x.cps.toList
noncomputable def txN (rs : List (Nat × Str)) : List Nat := (rs.map fun r => rowN r.1 r.2).flatMap lineT
noncomputable def preN (j : Nat) : List Nat := List.replicate (1 + j) 46 ++ [13, 10, 97, 46, 10] ++ List.replicate (1 + j) 46 ++ [98, 13, 46, 13, 10, 13, 10]
noncomputable def toU (l : List Nat) : List UInt8 := l.map Nat.toUInt8
noncomputable def bump (r : Nat × Str) : Nat × Str := (r.1 + 1, r.2)
noncomputable def okRow (r : Nat × Str) : Prop := r.1 ∈ [1, 2, 3, 4] ∧ r.2 ∈ signL
theorem toU_app (a b : List Nat) : toU (a ++ b) = toU a ++ toU b := List.map_append
theorem qp_line {m : Nat} {x : Str} (hm : m ∈ [1, 2, 3]) (hx : x ∈ signL) (rest : List UInt8) : qpl true (toU (lineT (rowN m x)) ++ rest) = toU (lineT (rowN (m + 1) x)) ++ qpl true rest := by
  simp only [signL, List.mem_cons, List.not_mem_nil, or_false] at hx hm
  rcases hm with rfl | rfl | rfl <;> rcases hx with rfl | rfl | rfl | rfl <;> kernel_rfl
theorem qp_pre {j : Nat} (hj : j ∈ [0, 1, 2, 3]) (rest : List UInt8) : qpl true (toU (preN j) ++ rest) = toU (preN (j + 1)) ++ qpl true rest := by
  simp only [List.mem_cons, List.not_mem_nil, or_false] at hj
  rcases hj with rfl | rfl | rfl | rfl <;> kernel_rfl
theorem qp_rows : ∀ rs : List (Nat × Str), (∀ r ∈ rs, r.1 ∈ [1, 2, 3] ∧ r.2 ∈ signL) → qpl true (toU (txN rs)) = toU (txN (rs.map bump))
  | [], _ => rfl
  | r :: rs, h => by
    have h1 := h r List.mem_cons_self
    have e1 : ∀ (r : Nat × Str) (rs : List (Nat × Str)), txN (r :: rs) = lineT (rowN r.1 r.2) ++ txN rs := fun r rs => rfl
    rw [List.map_cons, e1, e1, toU_app, toU_app, qp_line h1.1 h1.2, qp_rows rs fun r hr => h r (List.mem_cons_of_mem _ hr)]
    rfl
theorem row_all : ∀ m ∈ [1, 2, 3, 4], ∀ x ∈ signL, (∀ c ∈ lineT (rowN m x), c < 128) ∧ (rowN m x).length ≤ 6 ∧ 13 ∉ rowN m x ∧ Txt.lstripChars (sT (rowN m x)) "." = x ∧ ((sT (rowN m x)).length : Int) - (x.length : Int) = m := by decide +kernel
theorem row_lt {r : Nat × Str} (h : okRow r) : ∀ c ∈ lineT (rowN r.1 r.2), c < 128 := (row_all _ h.1 _ h.2).1
theorem row_len {r : Nat × Str} (h : okRow r) : (rowN r.1 r.2).length ≤ 6 := (row_all _ h.1 _ h.2).2.1
theorem pre_lt : ∀ j ∈ [0, 1, 2, 3, 4], (∀ c ∈ preN j, c < 128) ∧ (preN j).length ≤ 22 := by decide +kernel
theorem tx_lt : ∀ rs : List (Nat × Str), (∀ r ∈ rs, okRow r) → (∀ c ∈ txN rs, c < 128) ∧ (txN rs).length ≤ 8 * rs.length
  | [], _ => ⟨fun c h => (nomatch h), Nat.le_refl _⟩
  | r :: rs, h => by
    have e1 : txN (r :: rs) = lineT (rowN r.1 r.2) ++ txN rs := rfl
    obtain ⟨h1, h2⟩ := tx_lt rs fun r hr => h r (List.mem_cons_of_mem _ hr)
    have h3 := row_lt (h r List.mem_cons_self)
    have h4 := row_len (h r List.mem_cons_self)
    refine ⟨fun c hc => ?_, ?_⟩
    · rw [e1] at hc
      exact (List.mem_append.mp hc).elim (h3 c) (h1 c)
    · rw [e1, List.length_append, List.length_cons]
      have : (lineT (rowN r.1 r.2)).length = (rowN r.1 r.2).length + 2 := by unfold lineT; rw [List.length_append]; rfl
      omega
theorem u8_nat {c : Nat} (h : c < 128) : (Nat.toUInt8 c).toNat = c := by
  show c % 256 = c
  omega
theorem asciiB_of {l : List Nat} (h : ∀ c ∈ l, c < 128) : asciiB (toU l).toArray = true := by
  unfold asciiB
  rw [Array.all_eq_true_iff_forall_mem]
  intro c hc
  have hc : c ∈ toU l := by simpa using hc
  obtain ⟨n, hn, rfl⟩ := List.mem_map.mp hc
  rw [u8_nat (h n hn)]
  exact decide_eq_true (h n hn)
theorem toU_back : ∀ {l : List Nat}, (∀ c ∈ l, c < 128) → (toU l).map UInt8.toNat = l
  | [], _ => rfl
  | c :: l, h => by
    have e : toU (c :: l) = c.toUInt8 :: toU l := rfl
    rw [e, List.map_cons, u8_nat (h c List.mem_cons_self), toU_back fun c hc => h c (List.mem_cons_of_mem _ hc)]
theorem Site.qp {l : L} (S : Site l.h) {b : Array UInt8} (h1 : b.size ≤ 100000) (h2 : (qpl true b.toList).length ≤ 1000000) : FN l.up "_quote_periods" [.bytes b] (.bytes (qpB b)) := by
  obtain ⟨g, fd, F, hs⟩ := S.fns _ (mem_at 0 rfl)
  obtain ⟨o, e1, e2⟩ := F.obj
  exact ⟨_, g, .inr (.inr ⟨_, o, fd, rfl, F.ta, e1, e2⟩), qp_ok S.pat S.lim F hs S.twin h1 h2⟩
noncomputable def Gd (i : Nat) (l : List Str) : Str := if (l.getD i ⟨#[]⟩).length ≤ 2 then l.getD i ⟨#[]⟩ else ⟨#[]⟩
noncomputable def rsA (ls : List (List Str)) : Nat → List (Nat × Str)
  | 0 => []
  | j + 1 => (rsA ls j).map bump ++ ls.map fun l => (1, Gd j l)
theorem rs_len {ls : List (List Str)} : ∀ j, (rsA ls j).length = j * ls.length
  | 0 => by rw [Nat.zero_mul]; rfl
  | j + 1 => by rw [rsA, List.length_append, List.length_map, List.length_map, rs_len j, Nat.succ_mul]
theorem rs_mem {ls : List (List Str)} : ∀ {j : Nat} {r : Nat × Str}, (∀ l ∈ ls, ∀ i < j, Gd i l ∈ signL) → r ∈ rsA ls j → 1 ≤ r.1 ∧ r.1 ≤ j ∧ r.2 ∈ signL
  | 0, r, _, h => by cases h
  | j + 1, r, hl, h => by
    rw [rsA] at h
    rcases List.mem_append.mp h with h | h
    · obtain ⟨q, hq, rfl⟩ := List.mem_map.mp h
      obtain ⟨h1, h2, h3⟩ := rs_mem (fun l h i hi => hl l h i (by omega)) hq
      exact ⟨Nat.le_succ_of_le h1, Nat.succ_le_succ h2, h3⟩
    · obtain ⟨l, hl', rfl⟩ := List.mem_map.mp h
      exact ⟨Nat.le_refl _, by omega, hl l hl' j (by omega)⟩
theorem in14 {m n : Nat} (h1 : 1 ≤ m) (h2 : m ≤ n) (h3 : n ≤ 4) : m ∈ [1, 2, 3, 4] :=
  (List.all_eq_true.mp (by decide : (List.range 5).all (fun m => !decide (1 ≤ m) || [1, 2, 3, 4].contains m) = true) m (List.mem_range.mpr (Nat.lt_succ_of_le (Nat.le_trans h2 h3))) |> fun h => by
    rw [decide_eq_true h1] at h
    exact List.contains_iff_mem.mp h)
theorem in13 {m n : Nat} (h1 : 1 ≤ m) (h2 : m ≤ n) (h3 : n ≤ 3) : m ∈ [1, 2, 3] :=
  (List.all_eq_true.mp (by decide : (List.range 4).all (fun m => !decide (1 ≤ m) || [1, 2, 3].contains m) = true) m (List.mem_range.mpr (Nat.lt_succ_of_le (Nat.le_trans h2 h3))) |> fun h => by
    rw [decide_eq_true h1] at h
    exact List.contains_iff_mem.mp h)
noncomputable def Mt (ls : List (List Str)) (j : Nat) : Str := sT (preN j ++ txN (rsA ls j))
theorem Gd_len (i : Nat) (l : List Str) : (Gd i l).length ≤ 2 := by
  unfold Gd
  split
  · assumption
  · exact Nat.zero_le _
theorem pre_pos (j : Nat) (l : List Nat) : 0 < (preN j ++ l).length := by
  unfold preN
  rw [List.length_append, List.length_append]
  exact Nat.lt_of_lt_of_le (Nat.lt_of_lt_of_le (by decide : 0 < 7) (Nat.le_add_left 7 _)) (Nat.le_add_right _ _)
theorem toU_arr (l : List Nat) : (sT l).cps.map Nat.toUInt8 = (toU l).toArray := by
  unfold sT toU
  exact List.map_toArray ..
theorem in5 {i : Nat} (h : i ≤ 4) : i ∈ [0, 1, 2, 3, 4] := List.mem_range.mpr (Nat.lt_succ_of_le h)
theorem in4 {i : Nat} (h : i < 4) : i ∈ [0, 1, 2, 3] := List.mem_range.mpr h
theorem jn_rows (i : Nat) (ls : List (List Str)) : jn (ls.map fun l => Str.ofString "." ++ Gd i l ++ Str.ofString "\r\n") = sT (txN (ls.map fun l => (1, Gd i l))) := by
  rw [jn_eq]
  congr 1
  unfold txN
  rw [List.map_map, List.flatMap_map, List.flatMap_map]
  congr 1
  funext l
  have f1 : (Str.ofString ".").cps = #[46] := by decide +kernel
  have f2 : (Str.ofString "\r\n").cps = #[13, 10] := by decide +kernel
  show ((Str.ofString ".").cps ++ (Gd i l).cps ++ (Str.ofString "\r\n").cps).toList = lineT (rowN 1 (Gd i l))
  rw [f1, f2, Array.toList_append, Array.toList_append]
  rfl
section
variable {l : L} {ls : List (List Str)} {i : Nat}
theorem mail_step (S : Site l.h) (hi : i < 4) (hls : ls.length ≤ 5) (hG : ∀ l ∈ ls, ∀ j < 4, j ≤ i → Gd j l ∈ signL) (hix : ∀ l ∈ ls, IdxOk (.list (l.map .str)) (.int (i : Int)) (.str (Gd i l))) :
    XS l.up (cxOf (nth 24)) (R24 ls (Mt ls i) i) (bodyOf (stm 24 1)) (R24 ls (Mt ls (i + 1)) i, .next) := by
  have hr : ∀ r ∈ rsA ls i, 1 ≤ r.1 ∧ r.1 ≤ i ∧ r.2 ∈ signL := fun r h => rs_mem (fun l hl j hj => hG l hl j (Nat.lt_trans hj hi) (Nat.le_of_lt hj)) h
  have ok1 : ∀ r ∈ rsA ls i, okRow r := fun r h => ⟨in14 (hr r h).1 (hr r h).2.1 (Nat.le_of_lt hi), (hr r h).2.2⟩
  have ok2 : ∀ r ∈ (rsA ls i).map bump, okRow r := fun r h => by
    obtain ⟨q, hq, rfl⟩ := List.mem_map.mp h
    exact ⟨in14 (Nat.succ_le_succ (Nat.zero_le _)) (Nat.succ_le_succ (hr q hq).2.1) hi, (hr q hq).2.2⟩
  have ok3 : ∀ r ∈ ls.map (fun l => (1, Gd i l)), okRow r := fun r h => by
    obtain ⟨l, hl, rfl⟩ := List.mem_map.mp h
    exact ⟨.head _, hG l hl i hi (Nat.le_refl _)⟩
  have hp1 := pre_lt i (in5 (Nat.le_of_lt hi))
  have hp2 := pre_lt (i + 1) (in5 hi)
  have ht1 := tx_lt _ ok1
  have ht2 := tx_lt _ ok2
  have ht3 := tx_lt _ ok3
  rw [List.length_map] at ht3
  rw [List.length_map, rs_len] at ht2
  rw [rs_len] at ht1
  have hmul : i * ls.length ≤ 3 * 5 := Nat.mul_le_mul (Nat.le_of_lt_succ hi) hls
  have lt1 : ∀ c ∈ preN i ++ txN (rsA ls i), c < 128 := fun c hc => (List.mem_append.mp hc).elim (hp1.1 c) (ht1.1 c)
  have lt2 : ∀ c ∈ preN (i + 1) ++ txN ((rsA ls i).map bump), c < 128 := fun c hc => (List.mem_append.mp hc).elim (hp2.1 c) (ht2.1 c)
  have hq : qpl true (toU (preN i ++ txN (rsA ls i))) = toU (preN (i + 1) ++ txN ((rsA ls i).map bump)) := by
    rw [toU_app, toU_app, qp_pre (in4 hi), qp_rows _ fun r h => ⟨in13 (hr r h).1 (hr r h).2.1 (Nat.le_of_lt_succ hi), (hr r h).2.2⟩]
  have hlen1 : (preN i ++ txN (rsA ls i)).length ≤ 142 := by
    rw [List.length_append]; exact Nat.add_le_add hp1.2 (Nat.le_trans ht1.2 (Nat.mul_le_mul_left 8 hmul))
  have hlen2 : (preN (i + 1) ++ txN ((rsA ls i).map bump)).length ≤ 142 := by
    rw [List.length_append]; exact Nat.add_le_add hp2.2 (Nat.le_trans ht2.2 (Nat.mul_le_mul_left 8 hmul))
  have b1 : (Mt ls i).cps.map Nat.toUInt8 = (toU (preN i ++ txN (rsA ls i))).toArray := toU_arr _
  have e1 : (Str.ofString ".").length = 1 := by decide +kernel
  have e2 : (Str.ofString "\r\n").length = 2 := by decide +kernel
  have hW : ∀ y ∈ ls.map (fun l => Str.ofString "." ++ Gd i l ++ Str.ofString "\r\n"), y.length ≤ 5 := fun y hy => by
    obtain ⟨l, _, rfl⟩ := List.mem_map.mp hy
    rw [Str.length_append, Str.length_append, e1, e2]
    exact Nat.add_le_add_right (Nat.add_le_add_left (Gd_len i l) 1) 2
  have m2 : (⟨(qpB (toU (preN i ++ txN (rsA ls i))).toArray).map UInt8.toNat⟩ : Str) = sT (preN (i + 1) ++ txN ((rsA ls i).map bump)) := by
    unfold qpB
    rw [List.toList_toArray, hq]
    refine Str.ext' ?_
    rw [List.map_toArray, toU_back lt2]
    rfl
  have hM : sT (preN (i + 1) ++ txN ((rsA ls i).map bump)) ++ sT (txN (ls.map fun l => (1, Gd i l))) = Mt ls (i + 1) := by
    rw [sT_app, List.append_assoc]
    unfold Mt txN
    rw [rsA, List.map_append, List.flatMap_append]
  have q1 := m_encode (l := l.up) (x := Mt ls i) (by unfold Mt; rw [sT_len]; exact pre_pos _ _) (asc_of lt1)
  rw [b1] at q1
  have q2 : 0 < (qpB (toU (preN i ++ txN (rsA ls i))).toArray).size ∧ asciiB (qpB (toU (preN i ++ txN (rsA ls i))).toArray) = true := by
    unfold qpB
    rw [List.toList_toArray, hq]
    exact ⟨by rw [List.size_toArray]; unfold toU; rw [List.length_map]; exact pre_pos _ _, asciiB_of lt2⟩
  have q3 := m_decode (l := l.up) q2.1 q2.2
  rw [m2] at q3
  rw [← hM, ← jn_rows]
  refine mail_turn (G := Gd i) q1 (S.qp ?_ ?_) q3 hix (fun l => by rw [e1]; exact small (Nat.add_le_add_left (Gd_len i l) 1) rfl) (fun l => by rw [Str.length_append, e1, e2]; exact small (Nat.add_le_add_right (Nat.add_le_add_left (Gd_len i l) 1) 2) rfl) (Nat.le_trans hls (by decide)) ?_ ?_
  · rw [List.size_toArray]; unfold toU; rw [List.length_map]; exact Nat.le_trans hlen1 (by decide)
  · rw [List.toList_toArray, hq]; unfold toU; rw [List.length_map]; exact Nat.le_trans hlen2 (by decide)
  · rw [flat_one (fun l => AV.str (Str.ofString "." ++ Gd i l ++ Str.ofString "\r\n")), show (fun l => AV.str (Str.ofString "." ++ Gd i l ++ Str.ofString "\r\n")) = AV.str ∘ (fun l => Str.ofString "." ++ Gd i l ++ Str.ofString "\r\n") from rfl, ← List.map_map]
    exact m_join (joinOk_of hW (by rw [List.length_map]; exact Nat.le_trans (Nat.mul_le_mul_right 5 hls) (by decide)))
  · rw [jn_rows, sT_len, sT_len, sizeLine_eq]
    exact Nat.le_trans (Nat.add_le_add hlen2 (Nat.le_trans ht3.2 (Nat.mul_le_mul_left 8 hls))) (by decide)
end
theorem idx_nat {xs : List AV} {i : Nat} {a : AV} (h : xs[i]? = some a) (hi : i < 1000) : IdxOk (.list xs) (.int (i : Int)) a := idx_list ⟨Int.natCast_nonneg i, Int.lt_trans (Int.ofNat_lt.mpr hi) (by decide)⟩ h
theorem Gd_at {l : List Str} {i : Nat} {x : Str} (h : l[i]? = some x) (hx : x.length ≤ 2) : Gd i l = x := by
  unfold Gd
  rw [List.getD_eq_getElem?_getD, h]
  exact if_pos hx
theorem sign_len : ∀ x ∈ signL, x.length ≤ 2 := by decide +kernel
theorem Gd_ok {l : List Str} {n i : Nat} (hl : l.length = n) (hs : ∀ x ∈ l, x ∈ signL) (hi : i < n) : l[i]? = some (Gd i l) ∧ Gd i l ∈ signL := by
  subst hl
  have h : l[i]? = some l[i] := List.getElem?_eq_getElem hi
  have hm := hs _ (List.getElem_mem hi)
  rw [Gd_at h (sign_len _ hm)]
  exact ⟨h, hm⟩
theorem Site.mail {l : L} (S : Site l.h) {l0 : List Str} {lr : List (List Str)} {n : Nat} (hn4 : n < 4) (hls : (l0 :: lr).length ≤ 5) (hl : ∀ l ∈ l0 :: lr, l.length = n + 1 ∧ ∀ x ∈ l, x ∈ signL) : FN l.up.up "_law_mail" [.list (lsA (l0 :: lr))] (.str (Mt (l0 :: lr) (n + 1))) := by
  have hlen : FN l.up "len" [.list (l0.map .str)] (.int (n + 1 : Nat)) := by
    have h := Site.len (l := l.up) S (l0.map .str)
    rw [List.length_map, (hl l0 (.head _)).1] at h
    exact h
  obtain ⟨ρ', hr⟩ := run_mail (ℓ := l.up) (l0 := l0) (lr := lr) (M := Mt (l0 :: lr)) (n := n) (Site.top (l := l.up) S) (by show sT (preN 0 ++ txN []) = mail0; decide +kernel) (hl l0 (.head _)).1 (Nat.le_trans (Nat.le_of_lt hn4) (by decide)) hlen fun i hi =>
    mail_step S (Nat.lt_of_lt_of_le hi hn4) hls (fun l hl' j _ hji => (Gd_ok (hl l hl').1 (hl l hl').2 (Nat.lt_of_le_of_lt hji hi)).2) fun l hl' =>
      idx_nat (by rw [List.getElem?_map, (Gd_ok (hl l hl').1 (hl l hl').2 hi).1]; rfl) (Nat.lt_of_lt_of_le hi (Nat.le_trans (Nat.succ_le_succ (Nat.le_of_lt hn4)) (by decide)))
  exact Site.at_ (l := l.up) S 11 rfl rfl hr
/-- the dots behind a name -/
noncomputable def scP (g : Nat → Bool) : Nat → Int × Int
  | 0 => (0, 0)
  | j + 1 => ((scP g j).1 + (if g j then 1 else 0), (scP g j).2 + (scP g j).1 + (if g j then 1 else 0))
noncomputable def sumR (rs : List (Nat × Str)) (x : Str) : Int := ((rs.filter fun r => r.2 == x).map fun r => (r.1 : Int)).sum
noncomputable def cntR (rs : List (Nat × Str)) (x : Str) : Int := ((rs.filter fun r => r.2 == x).map fun _ => (1 : Int)).sum
theorem sumR_app (a b : List (Nat × Str)) (x : Str) : sumR (a ++ b) x = sumR a x + sumR b x := by
  unfold sumR; rw [List.filter_append, List.map_append, List.sum_append]
theorem cntR_app (a b : List (Nat × Str)) (x : Str) : cntR (a ++ b) x = cntR a x + cntR b x := by
  unfold cntR; rw [List.filter_append, List.map_append, List.sum_append]
theorem sumR_bump (x : Str) : ∀ a : List (Nat × Str), sumR (a.map bump) x = sumR a x + cntR a x
  | [] => rfl
  | r :: a => by
    have ih := sumR_bump x a
    unfold sumR cntR at *
    rw [List.map_cons, List.filter_cons, List.filter_cons]
    cases h : r.2 == x
    · rw [show ((bump r).2 == x) = false from h]
      simpa using ih
    · rw [show ((bump r).2 == x) = true from h]
      simp only [if_true, List.map_cons, List.sum_cons]
      rw [ih]
      show ((r.1 + 1 : Nat) : Int) + _ = _
      omega
theorem cntR_bump (x : Str) : ∀ a : List (Nat × Str), cntR (a.map bump) x = cntR a x
  | [] => rfl
  | r :: a => by
    have ih := cntR_bump x a
    unfold cntR at *
    rw [List.map_cons, List.filter_cons, List.filter_cons]
    cases h : r.2 == x
    · rw [show ((bump r).2 == x) = false from h]
      simpa using ih
    · rw [show ((bump r).2 == x) = true from h]
      simp only [if_true, List.map_cons, List.sum_cons]
      rw [ih]
theorem ones (x : Str) (j : Nat) : ∀ ls : List (List Str), sumR (ls.map fun l => (1, Gd j l)) x = (ls.map fun l => if Gd j l == x then (1 : Int) else 0).sum ∧ cntR (ls.map fun l => (1, Gd j l)) x = (ls.map fun l => if Gd j l == x then (1 : Int) else 0).sum
  | [] => ⟨rfl, rfl⟩
  | l :: ls => by
    obtain ⟨h1, h2⟩ := ones x j ls
    unfold sumR cntR at *
    rw [List.map_cons, List.map_cons, List.filter_cons]
    simp only
    cases h : Gd j l == x
    · simp only [Bool.false_eq_true, if_false, List.map_cons, List.sum_cons, Int.zero_add]
      exact ⟨h1, h2⟩
    · simp only [if_true, List.map_cons, List.sum_cons]
      rw [h1, h2]
      exact ⟨rfl, rfl⟩
theorem sum_add {α : Type} (f g : α → Int) : ∀ l : List α, (l.map fun x => f x + g x).sum = (l.map f).sum + (l.map g).sum
  | [] => rfl
  | x :: l => by simp only [List.map_cons, List.sum_cons]; rw [sum_add f g l]; omega
theorem sumR_sc (ls : List (List Str)) (x : Str) : ∀ j, cntR (rsA ls j) x = (ls.map fun l => (scP (fun i => Gd i l == x) j).1).sum ∧ sumR (rsA ls j) x = (ls.map fun l => (scP (fun i => Gd i l == x) j).2).sum
  | 0 => by
    have : ∀ ls : List (List Str), (ls.map fun _ => (0 : Int)).sum = 0 := fun ls => by
      induction ls with
      | nil => rfl
      | cons l ls ih => rw [List.map_cons, List.sum_cons, ih]; rfl
    exact ⟨(this ls).symm, (this ls).symm⟩
  | j + 1 => by
    obtain ⟨h1, h2⟩ := sumR_sc ls x j
    obtain ⟨o1, o2⟩ := ones x j ls
    rw [rsA, cntR_app, sumR_app, cntR_bump, sumR_bump, o1, o2, h1, h2]
    simp only [scP]
    rw [sum_add, sum_add, sum_add]
    exact ⟨rfl, rfl⟩
theorem four {α : Type} {P : List α → Prop} (h : ∀ a b c d, P [a, b, c, d]) (l : List α) (hl : l.length = 4) : P l := by
  cases l with
  | nil => cases hl
  | cons a l =>
    cases l with
    | nil => cases hl
    | cons b l =>
      cases l with
      | nil => cases hl
      | cons c l =>
        cases l with
        | nil => cases hl
        | cons d l =>
          cases l with
          | nil => exact h a b c d
          | cons e l => cases hl
noncomputable def permL : List (List Int) := [[0, 1, 2, 3], [0, 1, 3, 2], [0, 2, 1, 3], [0, 2, 3, 1], [0, 3, 1, 2], [0, 3, 2, 1], [1, 0, 2, 3], [1, 0, 3, 2], [1, 2, 0, 3], [1, 2, 3, 0], [1, 3, 0, 2], [1, 3, 2, 0], [2, 0, 1, 3], [2, 0, 3, 1], [2, 1, 0, 3], [2, 1, 3, 0], [2, 3, 0, 1], [2, 3, 1, 0], [3, 0, 1, 2], [3, 0, 2, 1], [3, 1, 0, 2], [3, 1, 2, 0], [3, 2, 0, 1], [3, 2, 1, 0]]
noncomputable def subL : List (List Int) := [[0, 1], [0, 2], [0, 3], [1, 2], [1, 3], [2, 3], [0, 1, 2], [0, 1, 3], [0, 2, 3], [1, 2, 3], [0, 1, 2, 3]]
noncomputable abbrev all4 : List Int := [0, 1, 2, 3]
noncomputable def kept (lf b : List Int) : List Int := b.filter lf.contains
noncomputable def before (b : List Int) (c d : Int) : Int := if b.idxOf c < b.idxOf d then 1 else 0
noncomputable def winsL (b lf : List Int) (c : Int) : Int := ((lf.filter (· != c)).map (before b c)).sum
theorem score_all : ∀ b ∈ permL, ∀ lf ∈ subL, (kept lf b).length = lf.length ∧ (∀ c ∈ kept lf b, c ∈ all4) ∧ ∀ c ∈ lf, (scP (fun i => (kept lf b).getD i (-1) == c) lf.length).2 = 1 + winsL b lf c := by decide +kernel
theorem perm_in : ∀ b ∈ permL, b.length = 4 ∧ ∀ c ∈ b, c ∈ all4 := by decide +kernel
theorem sub_in : ∀ lf ∈ subL, lf.length ∈ [2, 3, 4] ∧ ∀ c ∈ lf, c ∈ all4 := by decide +kernel
theorem num_in : ∀ c ∈ all4, 0 ≤ c ∧ c < 2 ^ 62 := by decide
theorem names_ok : ∀ ns ∈ nmL, ns.length = 4 ∧ (∀ x ∈ ns, x ∈ signL) ∧ (∀ c ∈ all4, Nn ns c ∈ signL ∧ ns[c.toNat]? = some (Nn ns c) ∧ ∀ a ∈ all4, (Nn ns a == Nn ns c) = (a == c)) ∧ ∀ b ∈ permL, b.map (Nn ns) ∈ nmL := by decide +kernel
theorem scP_congr {g g' : Nat → Bool} : ∀ {j : Nat}, (∀ i, i < j → g i = g' i) → scP g j = scP g' j
  | 0, _ => rfl
  | j + 1, h => by rw [scP, scP, scP_congr fun i hi => h i (Nat.lt_succ_of_lt hi), h j (Nat.lt_succ_self j)]
theorem qS_kept (ns : List Str) (lf b : List Int) : qS (qOf ns lf b) = (kept lf b).map (Nn ns) := by
  unfold qS qOf kept
  rw [List.filter_map, List.map_map]
  rfl
section
variable {l : L} {ns : List Str} {lf b : List Int}
theorem heard_c (hns : ns ∈ nmL) (hb : b ∈ permL) : HeardC (qOf ns lf b) := by
  refine heard_ok (fun x hx => ?_) (by unfold qOf; rw [List.length_map]; exact Nat.le_of_eq (perm_in b hb).1)
  obtain ⟨c, hc, rfl⟩ := List.mem_map.mp hx
  exact ((names_ok ns hns).2.2.1 c ((perm_in b hb).2 c hc)).1
theorem Nn_len (hns : ns ∈ nmL) (c : Int) : (Nn ns c).length ≤ 2 := by
  have h := (names_ok ns hns).2.1
  unfold Nn
  rw [List.getD_eq_getElem?_getD]
  cases e : ns[c.toNat]? with
  | none => exact Nat.zero_le _
  | some x => exact sign_len x (h x (List.mem_of_getElem? e))
theorem idx_nm (hns : ns ∈ nmL) {c : Int} (hc : c ∈ all4) : IdxOk (.list (ns.map .str)) (.int c) (.str (Nn ns c)) :=
  idx_list (num_in c hc) (by rw [List.getElem?_map, ((names_ok ns hns).2.2.1 c hc).2.1]; rfl)
theorem Site.heardP (S : Site l.h) (hns : ns ∈ nmL) (hb : b ∈ permL) : FN l.up.up.up "_law_heard" [.list (b.map .int), .list (lf.map .int), .list (ns.map .str)] (.list (((kept lf b).map (Nn ns)).map .str)) := by
  rw [← qS_kept]
  exact S.heard (heard_c hns hb) (fun c hc => idx_nm hns ((perm_in b hb).2 c hc)) (Nn_len hns) (Nat.le_of_eq (perm_in b hb).1)
end
theorem Site.sum {l : L} (S : Site l.h) (ns : List Int) : FN l "sum" [.list (ns.map .int)] (.int ns.sum) := S.b 5 rfl fn_sum
noncomputable def Hh (ns : List Str) (lf b : List Int) : List Str := (kept lf b).map (Nn ns)
noncomputable def rowS (r : Nat × Str) : Str := sT (rowN r.1 r.2)
noncomputable def LSt (r : Str) : Str := Txt.lstripChars r "."
theorem zip_map {α : Type} (f g : α → AV) : ∀ l : List α, zipA (l.map f) (l.map g) = l.map fun x => .tup [f x, g x]
  | [] => rfl
  | x :: l => congrArg (List.cons _) (zip_map f g l)
theorem rs_names (ls : List (List Str)) : ∀ j, (rsA ls j).map (·.2) = (List.range j).flatMap fun i => ls.map (Gd i)
  | 0 => rfl
  | j + 1 => by
    rw [rsA, List.map_append, List.map_map, List.map_map, List.range_succ, List.flatMap_append, ← rs_names ls j, List.flatMap_cons, List.flatMap_nil, List.append_nil]
    rfl
theorem rows_sum (x : Str) : ∀ rs : List (Nat × Str), (∀ r ∈ rs, okRow r) → (((rs.map rowS).filter fun r => LSt r == x).map fun r => (r.length : Int) - ((LSt r).length : Int)).sum = sumR rs x
  | [], _ => rfl
  | r :: rs, h => by
    have ih := rows_sum x rs fun r hr => h r (.tail _ hr)
    obtain ⟨h1, h2⟩ := (row_all _ (h r (.head _)).1 _ (h r (.head _)).2).2.2.2
    have h1' : LSt (rowS r) = r.2 := h1
    unfold sumR at *
    rw [List.map_cons, List.filter_cons, List.filter_cons, h1']
    cases hx : r.2 == x
    · exact ih
    · exact (congrArg (_ + ·) ih).trans (congrArg (· + _) (by show ((rowS r).length : Int) - ((LSt (rowS r)).length : Int) = (r.1 : Int); rw [h1']; exact h2))
theorem slice_to {a b : List Nat} : Txt.slice (sT (a ++ b)) none (some ((sT a).length : Int)) = sT a := by
  have h := StrLaws.sliceText_to (x := sT (a ++ b)) (j := ((sT a).length : Int)) ⟨Int.natCast_nonneg _, by rw [sT_list, sT_len, List.length_append]; exact Int.ofNat_le.mpr (Nat.le_add_right _ _)⟩
  refine (show Txt.slice _ _ _ = StrLaws.sliceText _ _ _ from rfl).trans (h.trans ?_)
  refine congrArg sT ?_
  rw [sT_list, sT_len, List.drop_zero, Int.sub_zero, Int.toNat_natCast, List.take_left]
noncomputable abbrev dots (n : Nat) : Str := sT (List.replicate (n + 1) 46)
theorem head_all : ∀ n ∈ ([2, 3, 4] : List Nat), (repS "." ((n : Int) + 1) = dots n ∧ (2 ≤ ((n : Int) + 1) ∧ ((n : Int) + 1) ≤ 1000 ∧ 1 ≤ (Str.ofString ".").length ∧ (Str.ofString ".").length ≤ 1000)) ∧ ((dots n).length + (Str.ofString "\r\na.\n").length ≤ 100 ∧ (dots n ++ "\r\na.\n").length + (dots n).length ≤ 100 ∧ (dots n ++ "\r\na.\n" ++ dots n).length + (Str.ofString "b\r.\r\n\r\n").length ≤ 100) ∧
    dots n ++ "\r\na.\n" ++ dots n ++ "b\r.\r\n\r\n" = sT (preN n) ∧ PyData.strOk (sT (preN n)) = true := by decide +kernel
theorem range_ok {n : Nat} (h : n ∈ [2, 3, 4]) : RgOk 0 (n : Int) (((List.range n).map fun i : Nat => (i : Int)).map .int) := by
  cases h with
  | head => exact rg_of (n := 2) (by decide)
  | tail _ h =>
    cases h with
    | head => exact rg_of (n := 3) (by decide)
    | tail _ h =>
      cases h with
      | head => exact rg_of (n := 4) (by decide)
      | tail _ h => exact nomatch h
theorem sign_ok : ∀ x ∈ signL, PyData.strOk x = true ∧ ¬ x = "" := by decide +kernel
theorem none_in {ls : List (List Str)} (h : ∀ l ∈ ls, ∀ x ∈ l, PyData.strOk x = true) : CmpOk .In .none (.list (lsA ls)) false := by
  refine cmp_inNone (n := 1) (ds := ls.map fun l => .list (l.map .str)) (.map fun l hl => .list (.strs (h l hl))) (by decide) ?_
  rw [List.any_map]
  exact List.any_eq_false.mpr fun l _ => by
    show ¬ PyData.eqv (.list (l.map .str)) .none = true
    rw [PyData.eqv]
    decide
theorem index_ok {l : L} {i : Int} {ns : List Int} (h : i ∈ ns) : MT l "index" (.list (ns.map .int)) [.int i] (.int (((idxI i ns).getD 0 : Nat) : Int)) := by
  have hs : ∃ j, idxI i ns = some j := by
    induction ns with
    | nil => cases h
    | cons n r ih =>
      unfold idxI
      by_cases hn : n = i
      · exact ⟨0, if_pos hn⟩
      · obtain ⟨j, hj⟩ := ih ((List.mem_cons.mp h).resolve_left fun q => hn q.symm)
        exact ⟨j + 1, by rw [if_neg hn, hj]; rfl⟩
  obtain ⟨j, hj⟩ := hs
  rw [hj]
  exact m_index hj
noncomputable def scoreP (bs : List (List Int)) (lf : List Int) (c : Int) : Int := (bs.map fun b => 1 + winsL b lf c).sum
noncomputable def sumS (bs : List (List Int)) (lf : List Int) : Int := (lf.map (scoreP bs lf)).sum
noncomputable def lowL (bs : List (List Int)) (lf : List Int) : List Int := lf.filter fun c => decide (scoreP bs lf c * (lf.length : Int) ≤ sumS bs lf)
noncomputable def qD (low : List Int) (dg : Int) : Int := dg.fmod ((2 : Int) ^ low.length - 1)
noncomputable def jx (low : List Int) (c : Int) : Int := (((idxI c low).getD 0 : Nat) : Int)
noncomputable def nextL (lf low : List Int) (q : Int) : List Int := lf.filter fun c => (!low.contains c) || (Builtin.bitAnd ((1 + q).fdiv (2 ^ (jx low c).toNat)) 1 == 0)
section
variable {l : L} {ns : List Str} {bs : List (List Int)} {lf : List Int}
noncomputable abbrev rsB (ns : List Str) (bs : List (List Int)) (lf : List Int) : List (Nat × Str) := rsA (bs.map (Hh ns lf)) lf.length
noncomputable abbrev rwB (ns : List Str) (bs : List (List Int)) (lf : List Int) : List Str := (rsB ns bs lf).map rowS ++ [sT []]
theorem hh_ok (hns : ns ∈ nmL) (hbs : ∀ b ∈ bs, b ∈ permL) (hlf : lf ∈ subL) : ∀ h ∈ bs.map (Hh ns lf), h.length = lf.length ∧ ∀ x ∈ h, x ∈ signL := fun h hl => by
  obtain ⟨b, hb, rfl⟩ := List.mem_map.mp hl
  obtain ⟨s1, s2, _⟩ := score_all b (hbs b hb) lf hlf
  refine ⟨by unfold Hh; rw [List.length_map, s1], fun x hx => ?_⟩
  obtain ⟨c, hc, rfl⟩ := List.mem_map.mp hx
  exact ((names_ok ns hns).2.2.1 c (s2 c hc)).1
theorem le4 {lf : List Int} (hlf : lf ∈ subL) : lf.length ≤ 4 := (by decide : ∀ lf ∈ subL, lf.length ≤ 4) lf hlf
theorem rsB_ok (hH : ∀ h ∈ bs.map (Hh ns lf), h.length = lf.length ∧ ∀ x ∈ h, x ∈ signL) (hlf : lf ∈ subL) : ∀ r ∈ rsB ns bs lf, okRow r := fun r h =>
  have q := rs_mem (fun l hl i hi => (Gd_ok (hH l hl).1 (hH l hl).2 hi).2) h
  ⟨in14 q.1 q.2.1 (le4 hlf), q.2.2⟩
theorem LS0 : LSt (sT []) = "" := by decide +kernel
theorem rwB_ok (hrs : ∀ r ∈ rsB ns bs lf, okRow r) : ∀ r ∈ rwB ns bs lf, PyData.strOk (LSt r) = true ∧ r.length ≤ 1000 := fun r hr => by
  rcases List.mem_append.mp hr with hr | hr
  · obtain ⟨q, hq, rfl⟩ := List.mem_map.mp hr
    rw [show LSt (rowS q) = q.2 from (row_all _ (hrs q hq).1 _ (hrs q hq).2).2.2.2.1]
    exact ⟨(sign_ok _ (hrs q hq).2).1, Nat.le_trans (Nat.le_of_eq (sT_len _)) (Nat.le_trans (row_len (hrs q hq)) (by decide))⟩
  · rw [List.mem_singleton.mp hr, LS0]
    exact ⟨by decide +kernel, Nat.zero_le _⟩
theorem bare_eq (hrs : ∀ r ∈ rsB ns bs lf, okRow r) : ((rwB ns bs lf).map fun r => AV.str (LSt r)) = ((((List.range lf.length).map fun i : Nat => (i : Int)).flatMap fun kk => bs.flatMap fun b => [AV.str (Gd kk.toNat (Hh ns lf b))]) ++ [.str ""]) := by
  rw [List.map_append, List.map_cons, List.map_nil, LS0]
  congr 1
  have e1 : (rsB ns bs lf).map ((fun r => AV.str (LSt r)) ∘ rowS) = ((rsB ns bs lf).map (·.2)).map .str := by
    rw [List.map_map]
    exact List.map_congr_left fun r hr => congrArg AV.str (row_all _ (hrs r hr).1 _ (hrs r hr).2).2.2.2.1
  rw [List.map_map, e1, rs_names, List.map_flatMap, List.flatMap_map]
  congr 1
  funext i
  rw [Int.toNat_natCast, flat_one (fun b => AV.str (Gd i (Hh ns lf b))), List.map_map, List.map_map]
  rfl
theorem points_ok (hns : ns ∈ nmL) (hbs : ∀ b ∈ bs, b ∈ permL) (hlf : lf ∈ subL) (hrs : ∀ r ∈ rsB ns bs lf, okRow r) {c : Int} (hc : c ∈ lf) :
    (((rwB ns bs lf).filter fun r => LSt r == Nn ns c).map fun r : Str => (r.length : Int) - ((LSt r).length : Int)).sum = scoreP bs lf c := by
  have nn := (names_ok ns hns).2.2.1
  have lc := (sub_in lf hlf).2
  have hN0 : (LSt (sT []) == Nn ns c) = false := by
    rw [LS0]
    exact beq_eq_false_iff_ne.mpr fun e => (sign_ok _ (nn c (lc c hc)).1).2 e.symm
  rw [List.filter_append, List.filter_cons, hN0, List.filter_nil]
  simp only [Bool.false_eq_true, if_false, List.append_nil]
  rw [rows_sum _ _ hrs, (sumR_sc _ _ _).2, List.map_map]
  refine congrArg List.sum (List.map_congr_left fun b hb => ?_)
  obtain ⟨s1, s2, s3⟩ := score_all b (hbs b hb) lf hlf
  rw [← s3 c hc]
  refine congrArg Prod.snd (scP_congr fun i hi => ?_)
  have hi' : i < (kept lf b).length := by rw [s1]; exact hi
  have hk : (kept lf b)[i]? = some (kept lf b)[i] := List.getElem?_eq_getElem hi'
  rw [show Gd i (Hh ns lf b) = Nn ns (kept lf b)[i] from Gd_at (by unfold Hh; rw [List.getElem?_map, hk]; rfl) (Nn_len hns _), List.getD_eq_getElem?_getD, hk]
  exact (nn c (lc c hc)).2.2 _ (s2 _ (List.getElem_mem hi'))
theorem pow_ok {m : Nat} (h1 : 1 ≤ m) (h2 : m ≤ 4) : (2 : Int) ^ m - 1 ≠ 0 := (by decide : ∀ m ∈ [1, 2, 3, 4], (2 : Int) ^ m - 1 ≠ 0) m (in14 h1 (Nat.le_refl _) h2)
theorem turn_ok (S : Site l.h) (hns : ns ∈ nmL) {b0 : List Int} {br : List (List Int)} (hbs : ∀ b ∈ b0 :: br, b ∈ permL) (hl5 : (b0 :: br).length ≤ 5) (hlf : lf ∈ subL) (dg : Int) (hlow : 1 ≤ (lowL (b0 :: br) lf).length) :
    Rnd l.up.up.up (b0 :: br) (ns.map .str) lf dg (scoreP (b0 :: br) lf) (nextL lf (lowL (b0 :: br) lf) (qD (lowL (b0 :: br) lf) dg)) := by
  have l4 := le4 hlf
  have hn := (sub_in lf hlf).1
  have lc := (sub_in lf hlf).2
  obtain ⟨⟨d1, z1⟩, ⟨z2, z3, z4⟩, d2, d3⟩ := head_all _ hn
  have nn := (names_ok ns hns).2.2.1
  have hH := hh_ok hns hbs hlf
  have hlen5 : ((b0 :: br).map (Hh ns lf)).length ≤ 5 := by rw [List.length_map]; exact hl5
  have hrs := rsB_ok hH hlf
  have hrl : (rsB ns (b0 :: br) lf).length ≤ 20 := by rw [rs_len]; exact Nat.mul_le_mul l4 hlen5
  have hrwl : (rwB ns (b0 :: br) lf).length ≤ 1000 := by rw [List.length_append, List.length_map]; exact Nat.le_trans (Nat.add_le_add_right hrl 1) (by decide)
  have hLSok := rwB_ok hrs
  have hd2 := bare_eq hrs
  have hKlen : (((List.range lf.length).map fun i : Nat => (i : Int)).flatMap fun kk => (b0 :: br).flatMap fun b => [AV.str (Gd kk.toNat (Hh ns lf b))]).length ≤ 1000 := by
    have h := congrArg List.length hd2
    rw [List.length_map, List.length_append (bs := [AV.str ""])] at h
    exact Nat.le_trans (Nat.le_add_right _ 1) (h ▸ hrwl)
  have hsz : ((lf.map AV.int).length : Int) = (lf.length : Int) := by rw [List.length_map]
  have hrows : ((rsB ns (b0 :: br) lf).map fun r => rowN r.1 r.2).map sT = (rsB ns (b0 :: br) lf).map rowS := List.map_map
  have h13 : ∀ r ∈ (rsB ns (b0 :: br) lf).map fun r => rowN r.1 r.2, 13 ∉ r ∧ r.length ≤ 1000 := fun r hr => by
    obtain ⟨q, hq, rfl⟩ := List.mem_map.mp hr
    exact ⟨(row_all _ (hrs q hq).1 _ (hrs q hq).2).2.2.1, Nat.le_trans (row_len (hrs q hq)) (by decide)⟩
  have hne : ((rsB ns (b0 :: br) lf).map fun r => rowN r.1 r.2) ≠ [] := fun e => by
    have h := congrArg List.length e
    rw [List.length_map, rs_len, List.length_map] at h
    exact absurd h (Nat.ne_of_gt (Nat.mul_pos ((by decide : ∀ n ∈ [2, 3, 4], 0 < n) _ hn) (Nat.succ_pos _)))
  have hsplit := m_split (l := l.up.up.up) (splitOk_rows (fun r hr => (h13 r hr).1) hne (by rw [List.length_map]; exact Nat.le_trans hrl (by decide)) fun r hr => (h13 r hr).2)
  rw [split_rows fun r hr => (h13 r hr).1, hrows] at hsplit
  have hS : ∀ ns : List Int, FN l.up.up.up "sum" [.list (ns.map .int)] (.int ns.sum) := Site.sum (l := l.up.up.up) S
  have hll : lsA ((b0 :: br).map (Hh ns lf)) = llA (Hh ns lf) (b0 :: br) := List.map_map
  have hmail := (S.mail (l0 := Hh ns lf b0) (lr := br.map (Hh ns lf)) (n := lf.length - 1) (Nat.lt_of_lt_of_le (Nat.sub_lt ((by decide : ∀ n ∈ [2, 3, 4], 0 < n) _ hn) (by decide)) l4) hlen5 (by rw [Nat.sub_add_cancel ((by decide : ∀ n ∈ [2, 3, 4], 1 ≤ n) _ hn)]; exact hH)).up
  rw [Nat.sub_add_cancel ((by decide : ∀ n ∈ [2, 3, 4], 1 ≤ n) _ hn)] at hmail
  refine ⟨(by decide : ∀ n ∈ [2, 3, 4], 1 < n) _ hn, fun sc hsc => ?_⟩
  refine leftT (H := Hh ns lf) (M := Mt ((b0 :: br).map (Hh ns lf)) lf.length) (D := dots lf.length) (hd := sT (preN lf.length)) (rows := rwB ns (b0 :: br) lf) (LS := LSt) (N := Nn ns) (S := sumS (b0 :: br) lf) (low := lowL (b0 :: br) lf) (Jx := jx (lowL (b0 :: br) lf)) (ks := (List.range lf.length).map fun i : Nat => (i : Int)) (G := fun b kk => Gd kk.toNat (Hh ns lf b)) (pw := 2 ^ (lowL (b0 :: br) lf).length)
    (Site.top (l := l) S) (Site.len (l := l.up.up.up) S) (Site.lenS (l := l.up.up.up) S) (Nat.le_trans hl5 (by decide)) (fun b hb => S.heardP hns (hbs b hb)) ?h2 ?h3 ?h4 (bin_addS (small z2 rfl)) (bin_addS (small z3 rfl)) ?hb3 ?h5 (fun r hr => m_lstrip (by rw [sizeLine_eq]; exact Nat.le_trans (hLSok r hr).2 (by decide))) hrwl ?d1 (by rw [hsz]; exact range_ok hn) ?hix hKlen ?d2 (zip_map _ _ _) (fun r hr c hc => cmp_eqS (hLSok r hr).1 (sign_ok _ (nn c (lc c hc)).1).1) (fun c hc => idx_nm hns (lc c hc)) (Nat.le_trans l4 (by decide)) ?hsum (zip_map AV.int (fun c => AV.int (scoreP (b0 :: br) lf c)) lf) ?hsum2
    (fun c => .inr (by rw [hsz]; exact Nat.lt_of_le_of_lt l4 (by decide))) (by rw [hsz]; rfl) ?hpw (bin_mod (pow_ok hlow (Nat.le_trans (List.length_filter_le _ _) l4))) (fun c hc => cmp_niI) (fun c hc h => index_ok (by simpa using h)) (fun c => Int.natCast_nonneg _) rfl hsc
  case h2 =>
    show CmpOk .In .none (.list (llA (Hh ns lf) (b0 :: br))) false
    rw [← hll]
    exact none_in fun l hl x hx => (sign_ok _ ((hH l hl).2 x hx)).1
  case h3 => rw [← hll]; exact hmail
  case h4 => rw [hsz, ← d1]; exact bin_mulS z1
  case hb3 => rw [← d2]; exact bin_addS (small z4 rfl)
  case h5 => unfold Mt; rw [slice_from]; exact hsplit
  case d1 => unfold Mt; rw [slice_to]; exact cmp_neR (n := 0) rfl (.str d3) (Nat.zero_le _)
  case hix =>
    intro kk hkk b hb
    obtain ⟨i, hi, rfl⟩ := List.mem_map.mp hkk
    have hi := List.mem_range.mp hi
    have hb' := hH (Hh ns lf b) (List.mem_map_of_mem hb)
    exact idx_nat (by rw [List.getElem?_map, (Gd_ok hb'.1 hb'.2 hi).1, Int.toNat_natCast]; rfl) (Nat.lt_of_lt_of_le hi (Nat.le_trans l4 (by decide)))
  case d2 =>
    exact cmp_neR (n := 1) (d := .list ((rwB ns (b0 :: br) lf).map fun r => .str (LSt r))) (congrArg AV.list hd2) (.list (.map fun r hr => .str (hLSok r hr).1)) (by decide)
  case hsum =>
    intro c hc
    rw [flat_if (fun r : Str => AV.int ((r.length : Int) - ((LSt r).length : Int))) (fun r => LSt r == Nn ns c), ← points_ok hns hbs hlf hrs hc, show (fun r : Str => AV.int ((r.length : Int) - ((LSt r).length : Int))) = AV.int ∘ (fun r : Str => (r.length : Int) - ((LSt r).length : Int)) from rfl, ← List.map_map]
    exact hS _
  case hsum2 =>
    rw [show (fun c => AV.int (scoreP (b0 :: br) lf c)) = AV.int ∘ scoreP (b0 :: br) lf from rfl, ← List.map_map]
    exact hS _
  case hpw =>
    rw [List.length_map]
    exact bin_pow (a := 2) (b := ((lowL (b0 :: br) lf).length : Int)) ⟨Int.natCast_nonneg _, Int.ofNat_le.mpr (Nat.le_trans (List.length_filter_le _ _) (Nat.le_trans l4 (by decide))), by decide⟩
end
noncomputable def W (bs : List (List Int)) (c d : Int) : Int := (bs.map fun b => before b c d).sum
theorem sum_zero {α : Type} {f : α → Int} : ∀ {l : List α}, (∀ x ∈ l, f x = 0) → (l.map f).sum = 0
  | [], _ => rfl
  | x :: l, h => by rw [List.map_cons, List.sum_cons, h x (.head _), sum_zero fun y hy => h y (.tail _ hy)]; rfl
theorem sum_one {α : Type} {f : α → Int} {n : Int} : ∀ {l : List α}, (∀ x ∈ l, f x = n) → (l.map f).sum = l.length * n
  | [], _ => (Int.zero_mul n).symm
  | x :: l, h => by rw [List.map_cons, List.sum_cons, h x (.head _), sum_one fun y hy => h y (.tail _ hy), List.length_cons, Int.natCast_succ, Int.add_mul, Int.one_mul, Int.add_comm]
theorem sum_ge {α : Type} {f : α → Int} {n : Int} : ∀ {l : List α}, (∀ x ∈ l, n ≤ f x) → l.length * n ≤ (l.map f).sum
  | [], _ => Int.le_of_eq (Int.zero_mul n)
  | x :: l, h => by
    rw [List.map_cons, List.sum_cons, List.length_cons, Int.natCast_succ, Int.add_mul, Int.one_mul, Int.add_comm]
    exact Int.add_le_add (h x (.head _)) (sum_ge fun y hy => h y (.tail _ hy))
theorem sum_mul {α : Type} (f : α → Int) (n : Int) : ∀ l : List α, (l.map fun x => f x * n).sum = (l.map f).sum * n
  | [] => (Int.zero_mul n).symm
  | x :: l => by rw [List.map_cons, List.sum_cons, sum_mul f n l, List.map_cons, List.sum_cons, Int.add_mul]
theorem W_self (c : Int) (bs : List (List Int)) : W bs c c = 0 := sum_zero fun b _ => if_neg (Nat.lt_irrefl _)
theorem sum_ne {f : Int → Int} {c : Int} (hf : f c = 0) : ∀ l : List Int, ((l.filter (· != c)).map f).sum = (l.map f).sum
  | [] => rfl
  | x :: l => by
    rw [List.filter_cons, List.map_cons, List.sum_cons, ← sum_ne hf l]
    by_cases h : x = c
    · rw [h, bne_self_eq_false, hf, Int.zero_add]; rfl
    · rw [bne_iff_ne.mpr h]; rfl
theorem sum_swap {α β : Type} (f : α → β → Int) (m : List β) : ∀ l : List α, (l.map fun x => (m.map (f x)).sum).sum = (m.map fun y => (l.map fun x => f x y).sum).sum
  | [] => (sum_zero fun _ _ => rfl).symm
  | x :: l => by rw [List.map_cons, List.sum_cons, sum_swap f m l, ← sum_add]; rfl
theorem score_W (lf : List Int) (c : Int) (bs : List (List Int)) : scoreP bs lf c = (bs.length : Int) + ((lf.filter (· != c)).map (W bs c)).sum := by
  unfold scoreP winsL
  rw [sum_add, sum_one (n := 1) fun _ _ => rfl, Int.mul_one, sum_swap]
  rfl
theorem before_sym : ∀ b ∈ permL, ∀ c ∈ all4, ∀ d ∈ all4, c ≠ d → before b c d + before b d c = 1 := by decide +kernel
/-- the thing that beats each other one -/
noncomputable def Wins (bs : List (List Int)) (w : Int) : Prop := w ∈ all4 ∧ ∀ d ∈ all4, d ≠ w → (bs.length : Int) < 2 * W bs w d
noncomputable def trg : Nat → Int
  | 0 => 0
  | m + 1 => m + trg m
section
variable {bs : List (List Int)} {w : Int} {lf : List Int}
theorem W_sym (hbs : ∀ b ∈ bs, b ∈ permL) {c d : Int} (hc : c ∈ all4) (hd : d ∈ all4) (hn : c ≠ d) : W bs c d + W bs d c = bs.length := by
  unfold W
  rw [← sum_add, sum_one (n := 1) fun b hb => before_sym b (hbs b hb) c hc d hd hn, Int.mul_one]
theorem W_all (hbs : ∀ b ∈ bs, b ∈ permL) : ∀ l : List Int, (∀ c ∈ l, c ∈ all4) → l.Nodup → (l.map fun c => (l.map (W bs c)).sum).sum = trg l.length * bs.length
  | [], _, _ => (Int.zero_mul _).symm
  | x :: l, h, hn => by
    have hn := List.nodup_cons.mp hn
    have ih := W_all hbs l (fun c hc => h c (.tail _ hc)) hn.2
    have e : (l.map fun d => W bs x d + W bs d x).sum = l.length * bs.length := sum_one fun d hd => W_sym hbs (h x (.head _)) (h d (.tail _ hd)) fun q => hn.1 (q ▸ hd)
    rw [sum_add] at e
    rw [List.map_cons, List.sum_cons, List.map_cons, List.sum_cons, W_self, Int.zero_add, show (fun c => ((x :: l).map (W bs c)).sum) = fun c => W bs c x + (l.map (W bs c)).sum from rfl, sum_add, ih, ← Int.add_assoc, e, List.length_cons, trg, Int.add_mul]
theorem sub_ok4 : ∀ lf ∈ subL, lf.Nodup ∧ (lf.length = 2 ∨ lf.length = 3 ∨ lf.length = 4) ∧ ∀ w ∈ lf, (lf.filter (· != w)).length + 1 = lf.length := by decide +kernel
theorem sum_eq (hbs : ∀ b ∈ bs, b ∈ permL) (hlf : lf ∈ subL) : sumS bs lf = lf.length * bs.length + trg lf.length * bs.length := by
  unfold sumS
  rw [show scoreP bs lf = fun c => (bs.length : Int) + (lf.map (W bs c)).sum from funext fun c => (score_W lf c bs).trans (by rw [sum_ne (W_self c bs)]), sum_add, sum_one (n := (bs.length : Int)) fun _ _ => rfl, W_all hbs lf (sub_in lf hlf).2 (sub_ok4 lf hlf).1]
theorem wins_more (H : Wins bs w) (hlf : lf ∈ subL) (hw : w ∈ lf) : (((lf.filter (· != w)).length : Int)) * (bs.length + 1) ≤ 2 * ((lf.filter (· != w)).map (W bs w)).sum := by
  rw [Int.mul_comm 2, ← sum_mul]
  exact sum_ge fun d hd => by
    have h := List.mem_filter.mp hd
    rw [Int.mul_comm]
    exact H.2 d ((sub_in lf hlf).2 d h.1) (bne_iff_ne.mp h.2)
theorem low_ok (hbs : ∀ b ∈ bs, b ∈ permL) (H : Wins bs w) (hlf : lf ∈ subL) (hw : w ∈ lf) : 1 ≤ (lowL bs lf).length ∧ w ∉ lowL bs lf := by
  obtain ⟨-, hm, hf⟩ := sub_ok4 lf hlf
  constructor
  · refine Nat.pos_of_ne_zero fun e => ?_
    have h0 := List.length_eq_zero_iff.mp e
    have h : ∀ c ∈ lf, sumS bs lf + 1 ≤ scoreP bs lf c * lf.length := fun c hc => Int.lt_of_not_ge fun q => by
      have : c ∈ lowL bs lf := List.mem_filter.mpr ⟨hc, decide_eq_true q⟩
      rw [h0] at this
      exact nomatch this
    have h := sum_ge h
    rw [sum_mul, Int.mul_add, Int.mul_one, Int.mul_comm (lf.map (scoreP bs lf)).sum] at h
    have h1 := Int.le_of_add_le_add_left (Int.le_trans h (Int.le_of_eq (Int.add_zero _).symm))
    exact absurd (Int.ofNat_le.mp h1) (Nat.not_le.mpr (List.length_pos_of_mem hw))
  · intro hmm
    have h := of_decide_eq_true (List.mem_filter.mp hmm).2
    have h2 := wins_more H hlf hw
    have hl := hf w hw
    rw [score_W, sum_eq hbs hlf] at h
    generalize ((lf.filter (· != w)).map (W bs w)).sum = s at h h2
    generalize (lf.filter (· != w)).length = k at h2 hl
    generalize (bs.length : Int) = n at h h2
    rcases hm with e | e | e
    · rw [e] at h hl
      cases Nat.succ.inj hl
      simp only [trg] at h
      lia
    · rw [e] at h hl
      cases Nat.succ.inj hl
      simp only [trg] at h
      lia
    · rw [e] at h hl
      cases Nat.succ.inj hl
      simp only [trg] at h
      lia
end
noncomputable def b4 (a b c d : Bool) (x : Int) : Bool := [a, b, c, d].getD x.toNat false
theorem next_all : ∀ lf ∈ subL, ∀ a b c d : Bool, ∀ q < 2 ^ (lf.filter (b4 a b c d)).length - 1, (nextL lf (lf.filter (b4 a b c d)) (q : Nat)).length < lf.length ∧ (∀ c' ∈ lf, c' ∈ lf.filter (b4 a b c d) ∨ c' ∈ nextL lf (lf.filter (b4 a b c d)) (q : Nat)) ∧ (nextL lf (lf.filter (b4 a b c d)) (q : Nat) ∈ subL ∨ (nextL lf (lf.filter (b4 a b c d)) (q : Nat)).length ≤ 1) := by decide +kernel
theorem all4_of {P : Int → Prop} (h0 : P 0) (h1 : P 1) (h2 : P 2) (h3 : P 3) {c : Int} (h : c ∈ all4) : P c := by
  rcases List.mem_cons.mp h with rfl | h
  · exact h0
  rcases List.mem_cons.mp h with rfl | h
  · exact h1
  rcases List.mem_cons.mp h with rfl | h
  · exact h2
  · rw [List.mem_singleton.mp h]; exact h3
theorem low_b4 {lf : List Int} (p : Int → Bool) (h : ∀ c ∈ lf, c ∈ all4) : lf.filter p = lf.filter (b4 (p 0) (p 1) (p 2) (p 3)) :=
  List.filter_congr fun c hc => all4_of (P := fun c => p c = b4 (p 0) (p 1) (p 2) (p 3) c) rfl rfl rfl rfl (h c hc)
theorem step_ok {bs : List (List Int)} (hbs : ∀ b ∈ bs, b ∈ permL) {w : Int} (H : Wins bs w) {lf : List Int} (hlf : lf ∈ subL) (hw : w ∈ lf) (dg : Int) :
    (nextL lf (lowL bs lf) (qD (lowL bs lf) dg)).length < lf.length ∧ w ∈ nextL lf (lowL bs lf) (qD (lowL bs lf) dg) ∧ (nextL lf (lowL bs lf) (qD (lowL bs lf) dg) ∈ subL ∨ nextL lf (lowL bs lf) (qD (lowL bs lf) dg) = [w]) := by
  obtain ⟨h1, h2⟩ := low_ok hbs H hlf hw
  have h3 : (2 : Int) ≤ 2 ^ (lowL bs lf).length := by
    rw [show (2 : Int) ^ (lowL bs lf).length = ((2 ^ (lowL bs lf).length : Nat) : Int) from (Int.natCast_pow 2 _).symm]
    exact Int.ofNat_le.mpr (Nat.pow_le_pow_right (n := 2) (by decide) h1)
  have q : 0 ≤ qD (lowL bs lf) dg ∧ qD (lowL bs lf) dg < 2 ^ (lowL bs lf).length - 1 := fmod_lt dg (Int.sub_pos_of_lt (Int.lt_of_lt_of_le (by decide) h3))
  obtain ⟨a, b, c, d, e⟩ : ∃ a b c d, lowL bs lf = lf.filter (b4 a b c d) := ⟨_, _, _, _, low_b4 _ (sub_in lf hlf).2⟩
  have hq : (qD (lowL bs lf) dg).toNat < 2 ^ (lowL bs lf).length - 1 := (Int.toNat_lt q.1).mpr (by
    rw [Int.natCast_sub Nat.one_le_two_pow, Int.natCast_pow]
    exact q.2)
  have hn := next_all lf hlf a b c d (qD (lowL bs lf) dg).toNat
  rw [← e, Int.toNat_of_nonneg q.1] at hn
  have hn := hn hq
  have hwm := (hn.2.1 w hw).resolve_left h2
  refine ⟨hn.1, hwm, hn.2.2.imp_right fun h => ?_⟩
  obtain ⟨x, hx⟩ := List.length_eq_one_iff.mp (Nat.le_antisymm h (List.length_pos_of_mem hwm))
  rw [hx] at hwm
  exact hx.trans (by rw [List.mem_singleton.mp hwm])
noncomputable def ltI (c x : Int) : Int := (c + x).fmod 128 * 2 ^ 23
theorem way_all (u : Nat) (hu : u < 128) (e : Nat) (he : e < 127) : wayI (((u : Nat) : Int) * 8388608) (((u : Int) + ((e : Nat) - 63 : Int)).fmod 128 * 8388608) = absI (63 - (e : Int)) * 8388608 := by
  rw [Int.fmod_eq_emod_of_nonneg _ (by decide)]
  unfold wayI minI absI
  split <;> split <;> split <;> omega
theorem way_eq {c x y : Int} (h : -63 ≤ x - y ∧ x - y ≤ 63) : wayI (ltI c x) (ltI c y) = absI (x - y) * 8388608 := by
  obtain ⟨h1, h2⟩ := fmod_lt (c + x) (m := 128) (by decide)
  obtain ⟨u, hu⟩ := Int.eq_ofNat_of_zero_le h1
  obtain ⟨e, he⟩ := Int.eq_ofNat_of_zero_le (Int.sub_nonneg_of_le h.2)
  have e1 : x - y = 63 - (e : Int) := by rw [← he]; exact (Int.sub_sub_self 63 (x - y)).symm
  have e2 : (c + y).fmod 128 = ((u : Int) + (e - 63 : Int)).fmod 128 := by
    rw [← hu, Int.fmod_add_fmod, show c + x + ((e : Int) - 63) = c + y by rw [Int.add_assoc, show x + ((e : Int) - 63) = y by rw [← Int.neg_sub, ← e1]; exact Int.sub_sub_self x y]]
  unfold ltI
  rw [e2, hu, e1, show (2 : Int) ^ 23 = 8388608 from rfl]
  refine way_all u (Int.ofNat_lt.mp (hu ▸ h2)) e (Int.ofNat_lt.mp ?_)
  rw [← he]
  exact Int.sub_lt_of_sub_lt (Int.lt_of_lt_of_le (by decide : (63 : Int) - 127 < -63) h.1)
theorem runK_congr {α : Type} {bt bt' : Nat → Nat → Bool} {n : Nat} (h : ∀ i < n, ∀ j < n, bt i j = bt' i j) (t : KasT α) (ho : okK n t = true) : runK bt t = runK bt' t := by
  induction t with
  | ret a => rfl
  | ask i j k ih =>
    obtain ⟨h1, h2⟩ := Bool.and_eq_true_iff.mp (show (decide (i < n) && decide (j < n) && okK n (k true) && okK n (k false)) = true from ho)
    obtain ⟨h1, h3⟩ := Bool.and_eq_true_iff.mp h1
    obtain ⟨h5, h6⟩ := Bool.and_eq_true_iff.mp h1
    show runK bt (k (bt i j)) = runK bt' (k (bt' i j))
    rw [h i (of_decide_eq_true h5) j (of_decide_eq_true h6)]
    cases bt' i j
    · exact ih false h2
    · exact ih true h3
noncomputable def allK {α : Type} (p : α → Bool) : KasT α → Bool
  | .ret a => p a
  | .ask _ _ k => allK p (k true) && allK p (k false)
theorem allK_run {α : Type} {p : α → Bool} (bt : Nat → Nat → Bool) (t : KasT α) (h : allK p t = true) : p (runK bt t) = true := by
  induction t with
  | ret a => exact h
  | ask i j k ih =>
    obtain ⟨h1, h2⟩ := Bool.and_eq_true_iff.mp (show (allK p (k true) && allK p (k false)) = true from h)
    show p (runK bt (k (bt i j))) = true
    cases bt i j
    · exact ih false h2
    · exact ih true h1
theorem kas4 : okK 4 (kas_sort 4) = true ∧ allK (fun a => a.size == 4 && a.toList.all fun i => decide (i < 4)) (kas_sort 4) = true := by decide +kernel
theorem sort4 (a b c d : Int) : SortOk [(a, 0), (b, 1), (c, 2), (d, 3)] ∧ (sortP [(a, 0), (b, 1), (c, 2), (d, 3)]).length = 4 := by
  have h := allK_run (fun i j => ltP ([(a, 0), (b, 1), (c, 2), (d, 3)].getD i (0, 0)) ([(a, 0), (b, 1), (c, 2), (d, 3)].getD j (0, 0))) _ kas4.2
  obtain ⟨h1, h2⟩ := Bool.and_eq_true_iff.mp h
  have h1 := eq_of_beq h1
  exact ⟨⟨Nat.le_add_left 2 2, (by decide : 4 < 64), kas4.1, Nat.le_trans (Nat.le_of_eq h1) (by rw [sizeLine_eq]; decide), fun i hi => of_decide_eq_true (List.all_eq_true.mp h2 i hi)⟩, (List.length_map _).trans h1⟩
noncomputable abbrev pairs (D : Int → Int) : List (Int × Int) := [(D 0, 0), (D 1, 1), (D 2, 2), (D 3, 3)]
noncomputable def ordOf (D : Int → Int) : List Int := (runK (fun i j => decide (D i < D j)) (kas_sort 4)).toList.map fun i : Nat => (i : Int)
/-- a spot's ways to the four places, their order and the nearest given -/
noncomputable abbrev GeoG (E : Int → Int) (o : List Int) (m : Int) : Prop := (∀ x ∈ all4, -63 ≤ E x ∧ E x ≤ 63) ∧ (∀ i < 4, ∀ j < i, absI (E (i : Nat)) ≠ absI (E (j : Nat))) ∧ o ∈ permL ∧ (∀ x ∈ all4, ∀ y ∈ all4, before o x y = if absI (E x) < absI (E y) then 1 else 0) ∧
  m ∈ all4 ∧ ∀ d ∈ all4, d ≠ m → absI (E m) < absI (E d)
noncomputable abbrev GeoC (E : Int → Int) : Prop := GeoG E (ordOf fun x => absI (E x)) (minP (pairs fun x => absI (E x))).2
theorem lt_s {P : Nat → Prop} {n : Nat} (h : ∀ j < n, P j) (q : P n) : ∀ j < n + 1, P j := Nat.forall_lt_succ_right.mpr ⟨h, q⟩
theorem lt_0 {P : Nat → Prop} : ∀ j < 0, P j := fun j h => absurd h (Nat.not_lt_zero j)
theorem four_of {P : Nat → Prop} (h0 : P 0) (h1 : P 1) (h2 : P 2) (h3 : P 3) : ∀ i < 4, P i := lt_s (lt_s (lt_s (lt_s lt_0 h0) h1) h2) h3
theorem pr4_at (D : Int → Int) : ∀ i < 4, (pairs D).getD i (0, 0) = (D (i : Nat), ((i : Nat) : Int)) := four_of rfl rfl rfl rfl
noncomputable def rel (b c d : Nat) (x : Int) : Int := [0, 4 * (b : Int) + 4, 4 * (b : Int) + 4 * c + 8, 4 * (b : Int) + 4 * c + 4 * d + 12].getD x.toNat 0
/-- three answers that fit together -/
noncomputable def tri3 (a b c : Bool) : Bool := (a && b && !c) || (!a && !b && c)
theorem tri3_ok {a b c : Int} (h1 : a ≠ b) (h2 : b ≠ c) : tri3 (decide (a < b)) (decide (b < c)) (decide (a < c)) = false := by
  unfold tri3
  by_cases p : a < b <;> by_cases q : b < c <;> simp [p, q] <;> omega
noncomputable def btT (a b c d e f : Bool) (i j : Nat) : Bool := ([[false, a, b, c], [!a, false, d, e], [!b, !d, false, f], [!c, !e, !f, false]].getD i []).getD j false
noncomputable def ordT (bt : Nat → Nat → Bool) : List Int := (runK bt (kas_sort 4)).toList.map fun i : Nat => (i : Int)
theorem ord_all : ∀ a b c d e f : Bool, tri3 a d b = false → tri3 a e c = false → tri3 b f c = false → tri3 d f e = false →
    (ordT (btT a b c d e f) ∈ permL ∧ ∀ i < 4, ∀ j < 4, before (ordT (btT a b c d e f)) (i : Nat) (j : Nat) = if btT a b c d e f i j = true then 1 else 0) ∧
    argBest (btT a b c d e f) 3 < 4 ∧ ∀ i < 4, i ≠ argBest (btT a b c d e f) 3 → btT a b c d e f (argBest (btT a b c d e f) 3) i = true := by decide +kernel
theorem best_lt {bt bt' : Nat → Nat → Bool} {n : Nat} (h : ∀ i < n, ∀ j < n, bt i j = bt' i j) : ∀ k < n, argBest bt k = argBest bt' k ∧ argBest bt' k ≤ k
  | 0, _ => ⟨rfl, Nat.le_refl _⟩
  | k + 1, hk => by
    obtain ⟨h1, h2⟩ := best_lt h k (Nat.lt_of_succ_lt hk)
    unfold argBest
    rw [h1, h _ hk _ (Nat.lt_of_le_of_lt h2 (Nat.lt_of_succ_lt hk))]
    split
    · exact ⟨rfl, Nat.le_refl _⟩
    · exact ⟨rfl, Nat.le_succ_of_le h2⟩
noncomputable def btE (D : Nat → Int) : Nat → Nat → Bool := btT (decide (D 0 < D 1)) (decide (D 0 < D 2)) (decide (D 0 < D 3)) (decide (D 1 < D 2)) (decide (D 1 < D 3)) (decide (D 2 < D 3))
theorem bt_ok {D : Nat → Int} (hB : ∀ i < 4, ∀ j < i, D i ≠ D j) : (∀ i < 4, ∀ j < 4, decide (D i < D j) = btE D i j) ∧
    (ordT (btE D) ∈ permL ∧ ∀ i < 4, ∀ j < 4, before (ordT (btE D)) (i : Nat) (j : Nat) = if btE D i j = true then 1 else 0) ∧ argBest (btE D) 3 < 4 ∧ ∀ i < 4, i ≠ argBest (btE D) 3 → btE D (argBest (btE D) 3) i = true := by
  have r : ∀ {a : Int}, decide (a < a) = false := decide_eq_false (Int.lt_irrefl _)
  have n : ∀ {a b : Int}, a ≠ b → decide (a < b) = !decide (b < a) := fun {a b} h => by
    rw [Bool.eq_iff_iff, Bool.not_eq_true', decide_eq_true_eq, decide_eq_false_iff_not, Int.not_lt]
    exact ⟨Int.le_of_lt, fun q => Int.lt_iff_le_and_ne.mpr ⟨q, h⟩⟩
  have h10 := hB 1 (by decide) 0 (by decide)
  have h20 := hB 2 (by decide) 0 (by decide)
  have h21 := hB 2 (by decide) 1 (by decide)
  have h30 := hB 3 (by decide) 0 (by decide)
  have h31 := hB 3 (by decide) 1 (by decide)
  have h32 := hB 3 (by decide) 2 (by decide)
  exact ⟨four_of (four_of r rfl rfl rfl) (four_of (n h10) r rfl rfl) (four_of (n h20) (n h21) r rfl) (four_of (n h30) (n h31) (n h32) r),
    ord_all _ _ _ _ _ _ (tri3_ok h10.symm h21.symm) (tri3_ok h10.symm h31.symm) (tri3_ok h20.symm h32.symm) (tri3_ok h21.symm h32.symm)⟩
theorem in_all4 {n : Nat} (h : n < 4) : (n : Int) ∈ all4 := four_of (P := fun n => (n : Int) ∈ all4) (by decide) (by decide) (by decide) (by decide) n h
theorem of_all4 {P : Int → Prop} (h : ∀ i < 4, P ((i : Nat) : Int)) : ∀ x ∈ all4, P x := fun x hx => all4_of (h 0 (by decide)) (h 1 (by decide)) (h 2 (by decide)) (h 3 (by decide)) hx
theorem geo_c {E : Int → Int} (hA : ∀ x ∈ all4, -63 ≤ E x ∧ E x ≤ 63) (hB : ∀ i < 4, ∀ j < i, absI (E (i : Nat)) ≠ absI (E (j : Nat))) : GeoC E := by
  obtain ⟨t, ⟨h1, h2⟩, h3, h4⟩ := bt_ok (D := fun i => absI (E (i : Nat))) hB
  revert t h1 h2 h3 h4
  generalize btE (fun i => absI (E (i : Nat))) = B
  intro t h1 h2 h3 h4
  have eo : ordOf (fun x => absI (E x)) = ordT B := by
    unfold ordOf ordT
    rw [runK_congr t _ kas4.1]
  have tm : ∀ i < 4, ∀ j < 4, ltP ((pairs fun x => absI (E x)).getD i (0, 0)) ((pairs fun x => absI (E x)).getD j (0, 0)) = B i j := fun i hi j hj => by
    rw [pr4_at _ i hi, pr4_at _ j hj, ← t i hi j hj]
    unfold ltP
    by_cases e : i = j
    · rw [e, if_pos rfl, decide_eq_false (Int.lt_irrefl _), decide_eq_false (Int.lt_irrefl _)]
    · rw [if_neg ((Nat.lt_or_gt_of_ne e).elim (fun q => (hB j hj i q).symm) (hB i hi j))]
  have ep : (minP (pairs fun x => absI (E x))).2 = (argBest B 3 : Nat) := by
    unfold minP
    rw [show (pairs fun x => absI (E x)).length - 1 = 3 from rfl, (best_lt tm 3 (by decide)).1, pr4_at _ _ h3]
  refine ⟨hA, hB, eo ▸ h1, ?_, ep ▸ in_all4 h3, ?_⟩
  · rw [eo]
    refine of_all4 fun i hi => of_all4 fun j hj => ?_
    rw [h2 i hi j hj, ← t i hi j hj]
    simp only [decide_eq_true_eq]
  · rw [ep]
    refine of_all4 fun i hi hne => ?_
    exact of_decide_eq_true ((t _ h3 i hi).trans (h4 i hi fun q => hne (q ▸ rfl)))
theorem absI_ne {k v w : Nat} (h : v < w) : absI ((2 * (k : Int) - 11) - 4 * (w : Int)) ≠ absI ((2 * (k : Int) - 11) - 4 * (v : Int)) := by
  unfold absI
  split <;> split <;> omega
theorem four_le {k w : Nat} (hk : k < 38) (hw : w ≤ 12) : -63 ≤ (2 * (k : Int) - 11) - 4 * (w : Int) ∧ (2 * (k : Int) - 11) - 4 * (w : Int) ≤ 63 := by omega
theorem geo_of {b c d k : Nat} (hb : b < 4) (hc : c < 4) (hd : d < 4) (hk : k < 38) : GeoC fun x => (2 * (k : Nat) - 11 : Int) - rel b c d x := by
  have r0 : rel b c d (0 : Nat) = 4 * ((0 : Nat) : Int) := rfl
  have r1 : rel b c d (1 : Nat) = 4 * ((b + 1 : Nat) : Int) := (Int.mul_add 4 b 1).symm
  have r2 : rel b c d (2 : Nat) = 4 * ((b + c + 2 : Nat) : Int) := by show _ = 4 * ((b : Int) + c + 2); rw [Int.mul_add, Int.mul_add]; rfl
  have r3 : rel b c d (3 : Nat) = 4 * ((b + c + d + 3 : Nat) : Int) := by show _ = 4 * ((b : Int) + c + d + 3); rw [Int.mul_add, Int.mul_add, Int.mul_add]; rfl
  refine geo_c (of_all4 (four_of ?_ ?_ ?_ ?_)) (four_of lt_0 (lt_s lt_0 ?_) (lt_s (lt_s lt_0 ?_) ?_) (lt_s (lt_s (lt_s lt_0 ?_) ?_) ?_))
  · rw [r0]; exact four_le hk (by decide)
  · rw [r1]; exact four_le hk (by omega)
  · rw [r2]; exact four_le hk (by omega)
  · rw [r3]; exact four_le hk (by omega)
  · rw [r1, r0]; exact absI_ne (Nat.succ_pos _)
  · rw [r2, r0]; exact absI_ne (Nat.succ_pos _)
  · rw [r2, r1]; exact absI_ne (by omega)
  · rw [r3, r0]; exact absI_ne (Nat.succ_pos _)
  · rw [r3, r1]; exact absI_ne (by omega)
  · rw [r3, r2]; exact absI_ne (by omega)
theorem sort_ord {D : Int → Int} (h : ∀ i < 4, ∀ j < i, D (i : Nat) ≠ D (j : Nat)) : (sortP (pairs fun x => D x * 8388608)).map (·.2) = ordOf D := by
  have hb : ∀ i < 4, ∀ j < 4, ltP ((pairs fun x => D x * 8388608).getD i (0, 0)) ((pairs fun x => D x * 8388608).getD j (0, 0)) = decide (D (i : Nat) < D (j : Nat)) := fun i hi j hj => by
    rw [pr4_at _ i hi, pr4_at _ j hj]
    unfold ltP
    by_cases e : i = j
    · rw [e, if_pos rfl, decide_eq_false (Int.lt_irrefl _), decide_eq_false (Int.lt_irrefl _)]
    · have hne : D (i : Nat) ≠ D (j : Nat) := (Nat.lt_or_gt_of_ne e).elim (fun q => (h j hj i q).symm) (h i hi j)
      rw [if_neg fun q => hne (Int.eq_of_mul_eq_mul_right (by decide) q)]
      exact decide_eq_decide.mpr ⟨fun q => Int.lt_of_mul_lt_mul_right q (by decide), fun q => Int.mul_lt_mul_of_pos_right q (by decide)⟩
  unfold sortP ordOf
  rw [List.map_map, show (pairs fun x => D x * 8388608).length = 4 from rfl, runK_congr hb _ kas4.1]
  refine List.map_congr_left fun i hi => ?_
  have hk := allK_run (fun i j => decide (D (i : Nat) < D (j : Nat))) _ kas4.2
  exact congrArg Prod.snd (pr4_at _ i (of_decide_eq_true (List.all_eq_true.mp (Bool.and_eq_true_iff.mp hk).2 i hi)))
noncomputable def bal (c : Int) (p : Int → Int) (s : Int) : List Int := (sortP (ballotP (ltI c s) (ltI c (p 0)) (ltI c (p 1)) (ltI c (p 2)) (ltI c (p 3)))).map (·.2)
noncomputable def near (p : Int → Int) (c d s : Int) : Int := if absI (s - p c) < absI (s - p d) then 1 else 0
noncomputable abbrev Geo (p : Int → Int) (s : Int) : Prop := GeoC fun x => s - p x
section
variable {p : Int → Int} {s c : Int} {sp : List Int}
theorem bal_eq (G : Geo p s) : bal c p s = ordOf fun x => absI (s - p x) := by
  obtain ⟨h, h2, -⟩ := G
  unfold bal ballotP
  rw [way_eq (h 0 (by decide)), way_eq (h 1 (by decide)), way_eq (h 2 (by decide)), way_eq (h 3 (by decide))]
  exact sort_ord (D := fun x => absI (s - p x)) h2
theorem bal_in (G : ∀ s ∈ sp, Geo p s) : ∀ b ∈ sp.map (bal c p), b ∈ permL := fun b hb => by
  obtain ⟨s, hs, rfl⟩ := List.mem_map.mp hb
  rw [bal_eq (G s hs)]
  exact (G s hs).2.2.1
theorem W_near (G : ∀ s ∈ sp, Geo p s) {x y : Int} (hx : x ∈ all4) (hy : y ∈ all4) : W (sp.map (bal c p)) x y = (sp.map (near p x y)).sum := by
  unfold W
  rw [List.map_map]
  exact congrArg List.sum (List.map_congr_left fun s hs => by
    show before (bal c p s) x y = _
    rw [bal_eq (G s hs)]
    exact (G s hs).2.2.2.1 x hx y hy)
theorem near_lt {a b x : Int} (h : a < b) : absI (x - a) < absI (x - b) ↔ 2 * x < a + b := by
  unfold absI
  split <;> split <;> lia
theorem near_gt {a b x : Int} (h : b < a) : absI (x - a) < absI (x - b) ↔ a + b < 2 * x := by
  unfold absI
  split <;> split <;> lia
theorem near_one {m w d : Int} (h : absI (m - p w) < absI (m - p d)) : (∀ x, x ≤ m → near p w d x = 1) ∨ (∀ x, m ≤ x → near p w d x = 1) := by
  unfold near
  rcases Int.lt_trichotomy (p w) (p d) with q | q | q
  · exact .inl fun x hx => if_pos ((near_lt q).mpr (Int.lt_of_le_of_lt (Int.mul_le_mul_of_nonneg_left hx (by decide)) ((near_lt q).mp h)))
  · rw [q] at h; exact absurd h (Int.lt_irrefl _)
  · exact .inr fun x hx => if_pos ((near_gt q).mpr (Int.lt_of_lt_of_le ((near_gt q).mp h) (Int.mul_le_mul_of_nonneg_left hx (by decide))))
theorem near_ge (w d x : Int) : 0 ≤ near p w d x := by unfold near; split <;> decide
theorem perm_sum {f : Int → Int} {a b : List Int} (h : a.Perm b) : (a.map f).sum = (b.map f).sum := by
  induction h with
  | nil => rfl
  | cons x _ ih => rw [List.map_cons, List.map_cons, List.sum_cons, List.sum_cons, ih]
  | swap x y l => simp only [List.map_cons, List.sum_cons]; exact Int.add_left_comm ..
  | trans _ _ i1 i2 => exact i1.trans i2
theorem sum_nn {α : Type} {f : α → Int} {l : List α} (h : ∀ x ∈ l, 0 ≤ f x) : 0 ≤ (l.map f).sum := by
  have := sum_ge h
  rwa [Int.mul_zero] at this
/-- the one in the middle -/
theorem med {h : Nat} (hl : sp.length = h + (h + 1)) : ∃ m, (sortI sp)[h]? = some m ∧ m ∈ sp ∧ ∀ f : Int → Int, (∀ x, 0 ≤ f x) → ((∀ x, x ≤ m → f x = 1) ∨ (∀ x, m ≤ x → f x = 1)) → (sp.length : Int) < 2 * (sp.map f).sum := by
  have hp := sortI_perm sp
  have hs := sortI_rises sp
  have hn := hp.length_eq.trans hl
  have hh : h < (sortI sp).length := by rw [hn]; exact Nat.lt_add_of_pos_right (Nat.succ_pos h)
  refine ⟨(sortI sp)[h], List.getElem?_eq_getElem hh, hp.mem_iff.mp (List.getElem_mem hh), fun f h0 h1 => ?_⟩
  have e := List.take_append_drop h (sortI sp)
  rw [List.drop_eq_getElem_cons hh] at e
  rw [← perm_sum hp, hl]
  rw [← e] at hs ⊢
  generalize (sortI sp)[h] = m at *
  obtain ⟨-, q2, q3⟩ := List.pairwise_append.mp hs
  rw [List.map_append, List.sum_append, List.map_cons, List.sum_cons]
  have lt : ((sortI sp).take h).length = h := List.length_take_of_le (Nat.le_of_lt hh)
  have ld : ((sortI sp).drop (h + 1)).length = h := by rw [List.length_drop, hn]; exact Nat.add_sub_cancel ..
  have A := sum_nn (f := f) (l := (sortI sp).take h) fun x _ => h0 x
  have B := sum_nn (f := f) (l := (sortI sp).drop (h + 1)) fun x _ => h0 x
  rcases h1 with h1 | h1
  · have C := sum_one (f := f) (n := 1) (l := (sortI sp).take h) fun x hx => h1 x (q3 x hx m (.head _))
    have D := h1 m (Int.le_refl _)
    rw [lt] at C
    lia
  · have C := sum_one (f := f) (n := 1) (l := (sortI sp).drop (h + 1)) fun x hx => h1 x ((List.pairwise_cons.mp q2).1 x hx)
    have D := h1 m (Int.le_refl _)
    rw [ld] at C
    lia
theorem wins_ok (G : ∀ s ∈ sp, Geo p s) {m : Int} (hm : m ∈ sp) (hmed : ∀ f : Int → Int, (∀ x, 0 ≤ f x) → ((∀ x, x ≤ m → f x = 1) ∨ (∀ x, m ≤ x → f x = 1)) → (sp.length : Int) < 2 * (sp.map f).sum) : Wins (sp.map (bal c p)) (minP (pairs fun x => absI (m - p x))).2 := by
  obtain ⟨-, -, -, -, h1, h2⟩ := G m hm
  refine ⟨h1, fun d hd hn => ?_⟩
  rw [W_near G h1 hd, List.length_map]
  exact hmed _ (near_ge _ _) (near_one (h2 d hd hn))
end
theorem Site.prepH {l : L} (S : Site l.h) : ∃ fd, PrepH l 85 99 84 fd := by
  obtain ⟨g, fd, ⟨F, hs⟩, hc, hq⟩ := S.prep
  exact ⟨fd, S.cls, S.defh, S.lim, F, hs, hc, hq, g, ⟨_, S.glo _ (mem_at 7 rfl), fun h O => rfl⟩, ⟨_, S.glo _ (mem_at 8 rfl), fun h O => rfl⟩, S.lenS, fun n => ⟨_, S.glo _ (mem_at 9 rfl), .inr (.inl ⟨_, rfl⟩), fn_slice_lo⟩, fun n => ⟨_, S.glo _ (mem_at 9 rfl), .inr (.inl ⟨_, rfl⟩), fn_slice_hi⟩⟩
theorem body19 : ∃ kk q1 q2 q3 q4 q5 q6 q7 q8 q9 q10 q11, bodyOf (nth 19) = [.Assign [.Name "thing" q1] (.Call (.Name "_SelectorContext" q2) [.Constant .none kk q3] [] q4) q5, .Assign [.Attribute (.Name "thing" q6) "tag" q7] (.Name "name" q8) q9, .Return (some (.Name "thing" q10)) q11] := ⟨_, _, _, _, _, _, _, _, _, _, _, _, rfl⟩
theorem Site.thing {l : L} (S : Site l.h) (t : AV) : FN l.up.up.up "_law_thing" [t] (.thing t) := by
  obtain ⟨g, fd, F, hs⟩ := S.fns _ (mem_at 6 rfl)
  obtain ⟨kk, q1, q2, q3, q4, q5, q6, q7, q8, q9, q10, q11, hb⟩ := body19
  obtain ⟨o, e1, e2⟩ := F.obj
  have hcx : fnCx fd = cxOf (nth 19) := congrArg (fun sc => Cx.mk sc (ownOf sc)) hs
  refine ⟨_, g, .inr (.inr ⟨_, o, fd, rfl, F.ta, e1, e2⟩), thing_ok S.cls S.lim (hb ▸ F) S.selc ?_ ?_ ?_ ?_⟩ <;> rw [hcx] <;> decide +kernel
noncomputable def prT : List Str → List AV
  | [n0, n1, n2, n3] => prs n0 n1 n2 n3
  | _ => []
theorem pr_T (N : Int → Str) : ∀ b : List Int, b.length = 4 → pr N b = prT (b.map N) := four fun _ _ _ _ => rfl
noncomputable def baseT : List AV := [.none, .str "a", .str "{aa}a"]
noncomputable abbrev DuelC (m : List Str) : Prop := (prT m).all tagB = true ∧ (prT m).length = 6 ∧ ∀ y ∈ signL, ((prT m).filter (hLo y)).length = m.idxOf y ∧ ∀ x ∈ signL, ((prT m).filter fun t => hLo y t && hHi x t).length = if m.idxOf x < m.idxOf y then 1 else 0
theorem duel_all : ∀ m ∈ nmL, DuelC m := by decide +kernel
theorem base_ok : baseT.all tagB = true ∧ ∀ y ∈ signL, (baseT.filter (hLo y)).length = (if y == "a" then 2 else 0) ∧ ∀ x ∈ signL, (baseT.filter fun t => hLo y t && hHi x t).length = 0 := by decide +kernel
theorem flat_len {p : AV → Bool} {F : List Int → List AV} {g : List Int → Int} : ∀ {bs : List (List Int)}, (∀ b ∈ bs, (((F b).filter p).length : Int) = g b) → (((bs.flatMap F).filter p).length : Int) = (bs.map g).sum
  | [], _ => rfl
  | b :: bs, h => by rw [List.flatMap_cons, List.filter_append, List.length_append, Int.natCast_add, List.map_cons, List.sum_cons, ← flat_len fun b h' => h b (.tail _ h'), ← h b (.head _)]
theorem idx_map {N : Int → Str} {c : Int} : ∀ {b : List Int}, (∀ a ∈ b, (N a == N c) = (a == c)) → (b.map N).idxOf (N c) = b.idxOf c
  | [], _ => rfl
  | a :: b, h => by rw [List.map_cons, List.idxOf_cons, List.idxOf_cons, h a (.head _), idx_map fun a h' => h a (.tail _ h')]
theorem idx_before : ∀ b ∈ permL, ∀ d ∈ all4, ((b.idxOf d : Nat) : Int) = 3 - (all4.map (before b d)).sum := by decide +kernel
section
variable {l : L} {ns : List Str} {bs : List (List Int)}
noncomputable def sumW (bs : List (List Int)) (c : Int) : Int := (all4.map (W bs c)).sum
noncomputable def behW (ns : List Str) (bs : List (List Int)) (d : Int) : Int := 3 * (bs.length : Int) - sumW bs d + (if (Nn ns d == "a") = true then 2 else 0)
theorem names_four (hns : ns ∈ nmL) : ns = all4.map (Nn ns) := four (P := fun ns => ns = all4.map (Nn ns)) (fun _ _ _ _ => rfl) ns (names_ok ns hns).1
theorem duel_at (hns : ns ∈ nmL) (hbs : ∀ b ∈ bs, b ∈ permL) : ∀ b ∈ bs, DuelC (b.map (Nn ns)) ∧ pr (Nn ns) b = prT (b.map (Nn ns)) ∧ ∀ c ∈ all4, (b.map (Nn ns)).idxOf (Nn ns c) = b.idxOf c := fun b hb =>
  ⟨duel_all _ ((names_ok ns hns).2.2.2 b (hbs b hb)), pr_T _ b (perm_in b (hbs b hb)).1, fun c hc => idx_map fun a ha => ((names_ok ns hns).2.2.1 c hc).2.2 a ((perm_in b (hbs b hb)).2 a ha)⟩
theorem tags_ok (hns : ns ∈ nmL) (hbs : ∀ b ∈ bs, b ∈ permL) (hl : bs.length ≤ 5) : (T26 (Nn ns) bs).all tagB = true ∧ (T26 (Nn ns) bs).length ≤ 1000000 := by
  have h := duel_at hns hbs
  unfold T26
  constructor
  · rw [List.all_append, List.all_flatMap]
    exact Bool.and_eq_true_iff.mpr ⟨base_ok.1, List.all_eq_true.mpr fun b hb => by rw [(h b hb).2.1]; exact (h b hb).1.1⟩
  · rw [List.length_append, List.length_flatMap]
    have e : bs.map (fun b => (pr (Nn ns) b).length) = bs.map fun _ => 6 := List.map_congr_left fun b hb => by rw [(h b hb).2.1]; exact (h b hb).1.2.1
    rw [e, List.map_const', List.sum_replicate_nat]
    exact Nat.le_trans (Nat.add_le_add_left (Nat.mul_le_mul_right 6 hl) _) (by decide)
theorem duel_len (hns : ns ∈ nmL) (hbs : ∀ b ∈ bs, b ∈ permL) {d : Int} (hd : d ∈ all4) : (∀ c ∈ all4, ((((T26 (Nn ns) bs).filter (hHi (Nn ns c))).filter (hLo (Nn ns d))).length : Int) = W bs c d) ∧ (((T26 (Nn ns) bs).filter (hLo (Nn ns d))).length : Int) = behW ns bs d := by
  have h := duel_at hns hbs
  have nn := (names_ok ns hns).2.2.1
  have hy := (nn d hd).1
  obtain ⟨-, hB⟩ := base_ok
  obtain ⟨B1, B2⟩ := hB _ hy
  constructor
  · intro c hc
    have hx := (nn c hc).1
    rw [List.filter_filter]
    unfold T26
    rw [List.filter_append, List.length_append, show [AV.none, .str "a", .str "{aa}a"].filter (fun t => hLo (Nn ns d) t && hHi (Nn ns c) t) = baseT.filter fun t => hLo (Nn ns d) t && hHi (Nn ns c) t from rfl, B2 _ hx, Nat.zero_add, flat_len (g := fun b => before b c d) fun b hb => ?_]
    · rfl
    · obtain ⟨q1, q2, q3⟩ := h b hb
      rw [q2, (q1.2.2 _ hy).2 _ hx, q3 c hc, q3 d hd]
      exact apply_ite Nat.cast (b.idxOf c < b.idxOf d) 1 0
  · unfold T26 behW sumW
    rw [List.filter_append, List.length_append, show [AV.none, .str "a", .str "{aa}a"].filter (hLo (Nn ns d)) = baseT.filter (hLo (Nn ns d)) from rfl, B1, Int.natCast_add, flat_len (g := fun b => 3 - (all4.map (before b d)).sum) fun b hb => ?_]
    · have e : (bs.map fun b => 3 - (all4.map (before b d)).sum).sum + (bs.map fun b => (all4.map (before b d)).sum).sum = 3 * (bs.length : Int) := by
        rw [← sum_add, sum_one (n := 3) fun b _ => Int.sub_add_cancel .., Int.mul_comm]
      rw [show (all4.map (W bs d)).sum = (bs.map fun b => (all4.map (before b d)).sum).sum from (sum_swap (fun x b => before b d x) bs all4), ← e, Int.add_sub_cancel, Int.add_comm]
      exact congrArg _ (apply_ite Nat.cast ((Nn ns d == "a") = true) 2 0)
    · obtain ⟨q1, q2, q3⟩ := h b hb
      rw [q2, (q1.2.2 _ hy).1, q3 d hd]
      exact idx_before b (hbs b hb) d hd
end
section
variable {l : L} {ns : List Str} {bs : List (List Int)} {w : Int}
noncomputable def rowsW (bs : List (List Int)) : List (List Int) := all4.map fun c => all4.map (W bs c)
theorem map_names (hns : ns ∈ nmL) (f : Str → AV) : ns.map f = all4.map fun c => f (Nn ns c) := (congrArg (List.map f) (names_four hns)).trans List.map_map
theorem Site.duels (S : Site l.h) (hns : ns ∈ nmL) (hbs : ∀ b ∈ bs, b ∈ permL) (hl5 : bs.length ≤ 5) :
    FN l.up.up.up.up "_law_duels" [bsA bs, .list (ns.map .str)] (.tup [.list ((rowsW bs).map fun r => .list (r.map .int)), .list (all4.map fun d => .int (behW ns bs d))]) := by
  obtain ⟨fd, H⟩ := Site.prepH (l := l.up.up) S
  obtain ⟨t1, t2⟩ := tags_ok hns hbs hl5
  obtain ⟨n4, hsg, nn, -⟩ := names_ok ns hns
  have hA : ∀ p : AV → Bool, ((T26 (Nn ns) bs).filter p).all tagB = true := fun p => List.all_eq_true.mpr fun t ht => List.all_eq_true.mp t1 t (List.mem_filter.mp ht).1
  have hz : ∀ p : AV → Bool, (((T26 (Nn ns) bs).filter p).map AV.thing).length ≤ 1000000 := fun p => by rw [List.length_map]; exact Nat.le_trans (List.length_filter_le _ _) t2
  have hz2 : ∀ p q : AV → Bool, ((((T26 (Nn ns) bs).filter p).filter q).map AV.thing).length ≤ 1000000 := fun p q => by rw [List.length_map]; exact Nat.le_trans (List.length_filter_le _ _) (Nat.le_trans (List.length_filter_le _ _) t2)
  have hBal : ∀ b ∈ bs, Bal ns (Nn ns) b := fun b hb => by
    obtain ⟨p1, p2⟩ := perm_in b (hbs b hb)
    revert p2
    exact four (P := fun b => (∀ c ∈ b, c ∈ all4) → Bal ns (Nn ns) b) (fun _ _ _ _ h => .mk fun c hc => ⟨idx_nm hns (h c hc), Nn_len hns c⟩) b p1
  obtain ⟨ρ', hr⟩ := run_duels (ℓ := l.up.up) (bs := bs) (ns := ns) (N := Nn ns) (A := fun x => ((T26 (Nn ns) bs).filter (hHi x)).map .thing) (C := fun x y => (((T26 (Nn ns) bs).filter (hHi x)).filter (hLo y)).map .thing) (B := fun y => ((T26 (Nn ns) bs).filter (hLo y)).map .thing)
    (Site.top (l := l) S) (Site.len (l := l.up.up.up) S) S.thing hBal (Nat.le_trans hl5 (by decide)) (fun y hy => sign_len y (hsg y hy)) (by rw [n4]; decide)
    (fun x hx => ⟨sel_hi H (hsg x hx) t1, hz _, fun y hy => ⟨sel_lo H (hsg y hy) (hA _), hz2 _ _⟩⟩) (fun y hy => sel_lo H (hsg y hy) t1) fun y _ => hz _
  have hd := fun d hd => duel_len hns hbs (d := d) hd
  have e1 : ns.map (rowT ns fun x y => (((T26 (Nn ns) bs).filter (hHi x)).filter (hLo y)).map .thing) = (rowsW bs).map fun r => .list (r.map .int) := by
    rw [map_names hns]
    unfold rowsW rowT
    rw [List.map_map]
    refine List.map_congr_left fun c hc => congrArg AV.list ?_
    rw [map_names hns, List.map_map]
    exact List.map_congr_left fun d hd' => congrArg AV.int (by rw [List.length_map]; exact (hd d hd').1 c hc)
  have e2 : (ns.map fun y => AV.int ((((T26 (Nn ns) bs).filter (hLo y)).map AV.thing).length : Int)) = all4.map fun d => .int (behW ns bs d) := by
    rw [map_names hns]
    exact List.map_congr_left fun d hd' => congrArg AV.int (by rw [List.length_map]; exact (hd d hd').2)
  rw [e1, e2] at hr
  exact Site.at_ (l := l.up.up.up) S 13 rfl rfl hr
theorem rnd_step (S : Site l.h) (hns : ns ∈ nmL) {b0 : List Int} {br : List (List Int)} (hbs : ∀ b ∈ b0 :: br, b ∈ permL) (hl5 : (b0 :: br).length ≤ 5) (H : Wins (b0 :: br) w) {lf : List Int} (h : lf ∈ subL ∨ lf = [w]) (hw : w ∈ lf) (dg : Int) :
    ∃ lf', Rnd1 l.up.up.up (b0 :: br) (ns.map .str) lf dg lf' ∧ (lf' ∈ subL ∨ lf' = [w]) ∧ w ∈ lf' ∧ (lf' = [w] ∨ lf'.length < lf.length) := by
  rcases h with h | rfl
  · obtain ⟨a, b, c⟩ := step_ok hbs H h hw dg
    exact ⟨_, .inr ⟨_, turn_ok S hns hbs hl5 h dg (low_ok hbs H h hw).1⟩, c, b, .inr a⟩
  · exact ⟨[w], .inl ⟨Nat.le_refl _, rfl⟩, .inr rfl, List.mem_singleton.mpr rfl, .inl rfl⟩
theorem Site.left (S : Site l.h) (hns : ns ∈ nmL) {b0 : List Int} {br : List (List Int)} (hbs : ∀ b ∈ b0 :: br, b ∈ permL) (hl5 : (b0 :: br).length ≤ 5) (H : Wins (b0 :: br) w) (d0 d1 d2 : Int) :
    FN l.up.up.up.up "_law_left" [bsA (b0 :: br), .list (ns.map .str), .list [.int d0, .int d1, .int d2]] (.tup [.list [.int w], .list (all4.map fun c => .int (scoreP (b0 :: br) all4 c))]) := by
  have h4 : all4 ∈ subL := by decide
  obtain ⟨a1, b1, c1⟩ := step_ok hbs H h4 H.1 d0
  have T1 := turn_ok S hns hbs hl5 h4 d0 (low_ok hbs H h4 H.1).1
  generalize nextL all4 (lowL (b0 :: br) all4) (qD (lowL (b0 :: br) all4) d0) = l1 at *
  obtain ⟨l2, T2, c2, b2, a2⟩ := rnd_step S hns hbs hl5 H c1 b1 d1
  obtain ⟨l3, T3, c3, b3, a3⟩ := rnd_step S hns hbs hl5 H c2 b2 d2
  have e3 : l3 = [w] := by
    refine c3.elim (fun c3 => a3.elim id fun a3 => ?_) id
    have q3 : 2 ≤ l3.length := (by decide : ∀ lf ∈ subL, 2 ≤ lf.length) l3 c3
    rcases a2 with a2 | a2
    · rw [a2] at a3
      exact absurd (Nat.lt_of_le_of_lt q3 a3) (show ¬ 2 < 1 by decide)
    · exact absurd (Nat.lt_of_le_of_lt (Nat.succ_le_of_lt (Nat.lt_of_le_of_lt q3 a3)) (Nat.lt_of_lt_of_le a2 (Nat.le_of_lt_succ a1))) (by decide)
  subst e3
  obtain ⟨ρ', hr⟩ := run_left (Site.len (l := l.up.up.up) S) T1 T2 T3
  exact Site.at_ (l := l.up.up.up) S 12 rfl rfl hr
end
noncomputable def ksH (h : Nat) : List Int := (List.range (3 + 2 * h)).map fun i : Nat => (i : Int)
theorem ks_ok {h : Nat} (hh : h = 0 ∨ h = 1) : RgOk 0 (3 + (h : Int) * 2) ((ksH h).map .int) ∧ (3 + (h : Int) * 2).fdiv 2 = ((h + 1 : Nat) : Int) ∧ ((ksH h).length : Int) = 3 + (h : Int) * 2 ∧ (ksH h).length = (h + 1) + (h + 1 + 1) ∧ (ksH h).length ≤ 5 := by
  rcases hh with rfl | rfl
  · exact ⟨range_3, by decide⟩
  · exact ⟨range_5, by decide⟩
theorem pw_ok {b : Int} {ks : List Int} (h : (ks.all fun k => decide ((0 ≤ k ∧ k ≤ 1000000 ∧ b.natAbs < 2 ^ 63) ∧ b ^ k.toNat ≠ 0 ∧ (b ^ k.toNat).natAbs < 1073741824)) = true) : Pw b ks := fun k hk => of_decide_eq_true (List.all_eq_true.mp h k hk)
theorem pw32 {h : Nat} (hh : h = 0 ∨ h = 1) : Pw 32 (ksH h) := by
  rcases hh with rfl | rfl <;> exact pw_ok (by decide +kernel)
noncomputable abbrev k9L : List Int := [0, 1, 2, 3, 4, 5, 6, 7, 8]
theorem zip_ints : ∀ xs ys : List Int, zipA (xs.map .int) (ys.map .int) = (xs.zip ys).map fun p => .tup [.int p.1, .int p.2]
  | [], _ => rfl
  | _ :: _, [] => rfl
  | x :: xs, y :: ys => congrArg (List.cons _) (zip_ints xs ys)
theorem none_ints (l : List Int) : CmpOk .In .none (.list (l.map .int)) false := by
  refine cmp_inNone (n := 0) (.ints l) (by decide) ?_
  rw [List.any_map]
  exact List.any_eq_false.mpr fun i _ => by
    show ¬ PyData.eqv (.int i) .none = true
    rw [PyData.eqv]
    decide
theorem iA_map {α : Type} (f : α → Int) (l : List α) : iA f l = (l.map f).map .int := (flat_one (fun k => AV.int (f k)) l).trans (List.map_map (g := AV.int)).symm
theorem len_near (p : Int → Int) (c d : Int) : ∀ sp : List Int, ((nearL sp (p c) (p d)).length : Int) = (sp.map (near p c d)).sum
  | [] => rfl
  | s :: sp => by
    rw [show nearL (s :: sp) (p c) (p d) = (if decide (absI (s - p c) < absI (s - p d)) = true then [AV.int s] else []) ++ nearL sp (p c) (p d) from rfl, List.length_append, Int.natCast_add, len_near p c d sp, List.map_cons, List.sum_cons]
    refine congrArg (· + _) ?_
    unfold near
    by_cases q : absI (s - p c) < absI (s - p d)
    · rw [if_pos q, decide_eq_true q]; rfl
    · rw [if_neg q, decide_eq_false q]; rfl
section
variable {l : L} {c : Int} {p : Int → Int} {sp : List Int} {ns : List Str} {bs : List (List Int)} {n : Int}
theorem Site.ballot (S : Site l.h) (c s : Int) (p : Int → Int) : FN l.up "_law_ballot" [.int (ltI c s), .list (all4.map fun x => .int (ltI c (p x)))] (.list ((bal c p s).map .int)) := by
  obtain ⟨ρ', hr⟩ := run_ballot (ℓ := l) S.top S.abs S.min (fun a b c d => S.b 6 rfl (fn_sortedP (ps := [(a, 0), (b, 1), (c, 2), (d, 3)]) (sort4 a b c d).1)) (fun a b c d => by rw [flat_one, List.length_map, (sort4 a b c d).2]; decide) (l := ltI c s) (a := ltI c (p 0)) (b := ltI c (p 1)) (c := ltI c (p 2)) (d := ltI c (p 3))
  unfold bal
  rw [List.map_map]
  exact S.at_ 9 rfl rfl hr
theorem tab_eq (G : ∀ s ∈ sp, Geo p s) : CmpOk .Eq (.list ((rowsW (sp.map (bal c p))).map fun r => .list (r.map .int))) (.list ((all4.map p).flatMap fun one => [.list (iA (fun two => ((nearL sp one two).length : Int)) (all4.map p))])) true := by
  refine cmp_eqR (n := 2) (d := .list ((rowsW (sp.map (bal c p))).map fun r => .list (r.map .int))) (congrArg AV.list ?_) (.list (.map fun r _ => .list (.ints r))) (by decide)
  rw [flat_one, List.map_map]
  unfold rowsW
  rw [List.map_map]
  refine List.map_congr_left fun x hx => congrArg AV.list ?_
  show (all4.map (W (sp.map (bal c p)) x)).map AV.int = _
  rw [iA_map, List.map_map]
  exact congrArg (List.map AV.int) (List.map_congr_left (l := all4) fun y hy => (W_near G hx hy).trans (len_near p x y sp).symm)
theorem score_all4 (bs : List (List Int)) (c : Int) : scoreP bs all4 c = bs.length + sumW bs c := by
  rw [score_W, sum_ne (W_self c bs)]
  rfl
theorem beh_eq (hn : (bs.length : Int) = n) : CmpOk .NotEq (.list (all4.map fun d => .int (behW ns bs d))) (.list (iA (fun c => 4 * n - (n + sumW bs c) + (if (Nn ns c == "a") = true then 2 else 0)) all4)) false := by
  refine cmp_neR (n := 1) (d := .list ((all4.map (behW ns bs)).map .int)) (congrArg AV.list ?_) (.list ?_) (by decide)
  · refine Eq.trans ?_ (flat_one (fun c => AV.int (4 * n - (n + sumW bs c) + (if (Nn ns c == "a") = true then 2 else 0))) all4).symm
    refine List.map_congr_left fun c _ => congrArg AV.int (congrArg (· + _) ?_)
    rw [hn]
    lia
  · exact (List.map_map (g := AV.int) (f := behW ns bs) (l := all4)) ▸ DL.ints (n := 0) (all4.map (behW ns bs))
theorem left_eq (hn : (bs.length : Int) = n) (w : Int) : CmpOk .NotEq (.tup [.list [.int w], .list (all4.map fun c => .int (scoreP bs all4 c))]) (.tup [.list [.int w], .list (all4.map fun c => .int (n + sumW bs c))]) false := by
  rw [show (fun c => AV.int (scoreP bs all4 c)) = fun c => AV.int (n + sumW bs c) from funext fun c => by rw [score_all4, hn]]
  exact cmp_neR (n := 2) rfl (.tup (.cons (.list (.cons .int .nil)) (.cons (.list ((List.map_map (g := AV.int) (f := fun c => n + sumW bs c) (l := all4)) ▸ DL.ints (n := 0) (all4.map fun c => n + sumW bs c))) .nil))) (by decide)
end
theorem FN.to {l : L} {g as r r'} (h : FN l g as r) (e : r = r') : FN l g as r' := e ▸ h
section
variable {l : L} {c0 c1 c2 c3 : Int} {scr : AV}
noncomputable def gq (c0 k : Int) : Int := (c0.fdiv (4 ^ k.toNat)).fmod 4
noncomputable def plP (a b c d : Nat) (x : Int) : Int := 4 * (a : Int) + rel b c d x
noncomputable def spF (c1 k : Int) : Int := 1 + 2 * ((c1.fdiv 2).fdiv (32 ^ k.toNat)).fmod 32
theorem geo_sp {a b c d : Nat} (ha : a < 4) (hb : b < 4) (hc : c < 4) (hd : d < 4) (c1 k : Int) : Geo (plP a b c d) (spF c1 k) := by
  obtain ⟨h1, h2⟩ := fmod_lt ((c1.fdiv 2).fdiv (32 ^ k.toNat)) (m := 32) (by decide)
  obtain ⟨j, hj⟩ := Int.eq_ofNat_of_zero_le h1
  unfold spF
  rw [hj] at h2 ⊢
  have h2 := Int.ofNat_lt.mp h2
  have e : (fun x => 1 + 2 * (j : Int) - plP a b c d x) = fun x => (2 * ((j + 6 - 2 * a : Nat) : Int) - 11 : Int) - rel b c d x := funext fun x => by
    unfold plP
    rw [← Int.sub_sub]
    exact congrArg (· - _) (by omega)
  show GeoC _
  rw [e]
  exact geo_of hb hc hd (by omega)
theorem gaps_of (c0 : Int) : ∃ a b c d : Nat, (a < 4 ∧ b < 4 ∧ c < 4 ∧ d < 4) ∧ gq c0 0 = a ∧ gq c0 1 = b ∧ gq c0 2 = c ∧ gq c0 3 = d := by
  have h : ∀ k, ∃ a : Nat, a < 4 ∧ gq c0 k = a := fun k => by
    obtain ⟨h1, h2⟩ := fmod_lt (c0.fdiv (4 ^ k.toNat)) (m := 4) (by decide)
    obtain ⟨j, hj⟩ := Int.eq_ofNat_of_zero_le h1
    exact ⟨j, Int.ofNat_lt.mp (hj ▸ h2), hj⟩
  obtain ⟨a, a1, a2⟩ := h 0
  obtain ⟨b, b1, b2⟩ := h 1
  obtain ⟨c, c1, c2⟩ := h 2
  obtain ⟨d, d1, d2⟩ := h 3
  exact ⟨a, b, c, d, ⟨a1, b1, c1, d1⟩, a2, b2, c2, d2⟩
theorem sums_ok (S : Site l.h) {a b c d : Nat} (e0 : gq c0 0 = a) (e1 : gq c0 1 = b) (e2 : gq c0 2 = c) (e3 : gq c0 3 = d) {k : Int} (hk : k ∈ all4) : FN l "sum" [.list (sliceL (iA (fun k => 4 * gq c0 k) all4) none (some (k + 1)))] (.int (plP a b c d k - 4 * k)) := by
  refine all4_of (P := fun k => FN l "sum" [.list (sliceL (iA (fun k => 4 * gq c0 k) all4) none (some (k + 1)))] (.int (plP a b c d k - 4 * k))) ?_ ?_ ?_ ?_ hk
  · exact (S.sum [4 * gq c0 0]).to (congrArg AV.int (show 4 * gq c0 0 + 0 = 4 * (a : Int) + 0 - 4 * 0 by rw [e0]; lia))
  · exact (S.sum [4 * gq c0 0, 4 * gq c0 1]).to (congrArg AV.int (show 4 * gq c0 0 + (4 * gq c0 1 + 0) = 4 * (a : Int) + (4 * b + 4) - 4 * 1 by rw [e0, e1]; lia))
  · exact (S.sum [4 * gq c0 0, 4 * gq c0 1, 4 * gq c0 2]).to (congrArg AV.int (show 4 * gq c0 0 + (4 * gq c0 1 + (4 * gq c0 2 + 0)) = 4 * (a : Int) + (4 * b + 4 * c + 8) - 4 * 2 by rw [e0, e1, e2]; lia))
  · exact (S.sum [4 * gq c0 0, 4 * gq c0 1, 4 * gq c0 2, 4 * gq c0 3]).to (congrArg AV.int (show 4 * gq c0 0 + (4 * gq c0 1 + (4 * gq c0 2 + (4 * gq c0 3 + 0))) = 4 * (a : Int) + (4 * b + 4 * c + 4 * d + 12) - 4 * 3 by rw [e0, e1, e2, e3]; lia))
theorem Site.left' {ns : List Str} {bs : List (List Int)} {w : Int} (S : Site l.h) (hns : ns ∈ nmL) (hne : 0 < bs.length) (hbs : ∀ b ∈ bs, b ∈ permL) (hl5 : bs.length ≤ 5) (H : Wins bs w) (d0 d1 d2 : Int) :
    FN l.up.up.up.up "_law_left" [bsA bs, .list (ns.map .str), .list [.int d0, .int d1, .int d2]] (.tup [.list [.int w], .list (all4.map fun c => .int (scoreP bs all4 c))]) := by
  cases bs with
  | nil => exact absurd hne (Nat.lt_irrefl 0)
  | cons b0 br => exact S.left hns hbs hl5 H d0 d1 d2
theorem slices_ok {h : Nat} (hh : h = 0 ∨ h = 1) (p f : Int → Int) : sliceL (((all4.map p ++ (ksH h).map f).map fun x => AV.int (ltI c2 x))) (some 4) none = ((ksH h).map f).map (fun s => .int (ltI c2 s)) ∧ sliceL ((all4.map p ++ (ksH h).map f).map fun x => AV.int (ltI c2 x)) none (some 4) = all4.map fun x => .int (ltI c2 (p x)) := by
  rcases hh with rfl | rfl <;> exact ⟨rfl, rfl⟩
theorem Site.law (S : Site l.h) (hc : FN l.up "_law_cells" [scr] (clA c0 c1 c2 c3)) : ∃ ρ', XS l.up.up.up.up cx27 [("script", .fz scr)] (bodyOf (nth 27)) (ρ', .ret (.bool true)) := by
  have S4 : Site l.up.up.up.up.h := S
  obtain ⟨a, b, c, d, ⟨ha, hb, hc', hd⟩, e0, e1, e2, e3⟩ := gaps_of c0
  obtain ⟨q1, q2⟩ := fmod_lt c1 (m := 2) (by decide)
  obtain ⟨h, hq⟩ := Int.eq_ofNat_of_zero_le q1
  have hh : h = 0 ∨ h = 1 := by omega
  obtain ⟨k1, k2, k3, k4, k5⟩ := ks_ok hh
  have hns := nm_in (c0.fdiv 256)
  generalize hp : plP a b c d = p at *
  generalize hsp : (ksH h).map (spF c1) = sp
  have G : ∀ s ∈ sp, Geo p s := fun s hs => by
    rw [← hsp] at hs
    obtain ⟨k, _, rfl⟩ := List.mem_map.mp hs
    rw [← hp]
    exact geo_sp ha hb hc' hd c1 k
  have sl : sp.length = (ksH h).length := by rw [← hsp, List.length_map]
  have s5 : sp.length ≤ 5 := by rw [sl]; exact k5
  obtain ⟨m, hm1, hm2, hmed⟩ := med (sl.trans k4)
  have hbs := bal_in (c := c2) G
  have bl : (sp.map (bal c2 p)).length = sp.length := List.length_map _
  have hn : ((sp.map (bal c2 p)).length : Int) = 3 + (h : Int) * 2 := by rw [bl, sl]; exact k3
  have hW := wins_ok (c := c2) G hm2 hmed
  have hdu := S.duels hns hbs (bl ▸ s5)
  have hle := S.left' hns (by rw [bl, sl, k4]; exact Nat.succ_pos _) hbs (bl ▸ s5) hW ((c3.fdiv (21 ^ (0 : Int).toNat)).fmod 21) ((c3.fdiv (21 ^ (1 : Int).toNat)).fmod 21) ((c3.fdiv (21 ^ (2 : Int).toNat)).fmod 21)
  generalize hbl : sp.map (bal c2 p) = bs at *
  have eP : iA (fun k => p k - 4 * k + 4 * k) all4 = (all4.map p).map .int := (iA_map ..).trans (congrArg (List.map AV.int) (List.map_congr_left fun k _ => Int.sub_add_cancel ..))
  have eS : iA (fun k => 1 + 2 * ((c1.fdiv 2).fdiv (32 ^ k.toNat)).fmod 32) (ksH h) = sp.map .int := (iA_map ..).trans (by rw [← hsp]; rfl)
  have eB : (sp.flatMap fun s => [AV.list ((bal c2 p s).map .int)]) = bs.map fun b => .list (b.map .int) := (flat_one ..).trans (by rw [← hbl, List.map_map]; rfl)
  obtain ⟨z1, z2⟩ := slices_ok (c2 := c2) hh p (spF c1)
  rw [hsp] at z1 z2
  obtain ⟨ρ', hG⟩ := lawG (ℓ := l.up.up.up.up) (pl := all4.map p) (sp := sp) S4.len S4.abs (by rw [List.length_map]; decide) (Nat.le_trans s5 (by decide)) (tab_eq (c := c2) G)
  rw [hbl] at hG
  have hb27 : bodyOf (nth 27) = [stm 27 0, stm 27 1, stm 27 2, stm 27 3, stm 27 4, stm 27 5, stm 27 6, stm 27 7, stm 27 8, stm 27 9, stm 27 10, stm 27 11, stm 27 12, stm 27 13, stm 27 14, stm 27 15, stm 27 16] := by kernel_rfl
  rw [hb27]
  refine ⟨ρ', lawA (k4 := all4) (S := fun k => p k - 4 * k) S4.top hc.up.up.up range_4 (pw_ok (by decide +kernel)) (by decide) (fun k hk => hp ▸ sums_ok S4 e0 e1 e2 e3 hk) ?_⟩
  rw [eP]
  refine lawB (k5 := ksH h) (k9 := k9L) S4.top (S.names (c0.fdiv 256)).up.up.up (hq ▸ bin_mod (by decide)) (by rcases hh with rfl | rfl <;> decide) k1 range_9 (pw32 hh) (pw_ok (by decide +kernel)) (Nat.le_trans k5 (by decide)) (by decide) ?_
  rw [eS, iA_map _ k9L]
  refine lawC (zs := (all4.map p ++ sp).zip (k9L.map _)) (V := fun q => ltI c2 q.1) (L := (all4.map p ++ sp).map fun x => .int (ltI c2 x)) S4.top (bin_addL ?_) (by rw [← List.map_append]; exact zip_ints _ _) ?_ (fun q hq => ?_) ?_ ?_ ?_
  · rw [List.length_map, List.length_map, List.length_map, sizeLine_eq]
    exact Nat.le_trans (Nat.add_le_add_left s5 _) (by decide)
  · rw [List.length_zip]
    exact Nat.le_trans (Nat.min_le_right _ _) (by rw [List.length_map]; decide)
  · obtain ⟨k, _, hk⟩ := List.mem_map.mp (List.of_mem_zip hq).2
    obtain ⟨g1, g2⟩ := fmod_lt ((c2.fdiv 128).fdiv (6 ^ k.toNat)) (m := 6) (by decide)
    exact (S.light (hk ▸ g1) (hk ▸ g2)).up
  · refine (flat_one ..).trans ?_
    rw [show (fun q : Int × Int => AV.int (ltI c2 q.1)) = (fun x => AV.int (ltI c2 x)) ∘ Prod.fst from rfl, ← List.map_map, List.map_fst_zip]
    rw [List.length_append, List.length_map, List.length_map]
    exact Nat.add_le_add_left s5 4
  · have h := none_ints ((all4.map p ++ sp).map (ltI c2))
    rw [List.map_map] at h
    exact h
  refine lawD (sp := sp) (lt := ltI c2) (B := bal c2 p) S4.top z1 z2 (Nat.le_trans s5 (by decide)) (fun s _ => (S.ballot c2 s p).up.up.up) ?_
  rw [eB]
  refine lawE (rows := rowsW bs) (sm := List.sum) (wl := all4.map fun c => .int (3 + (h : Int) * 2 + sumW bs c)) (k4 := all4) (w := fun c => 3 + (h : Int) * 2 + sumW bs c) (N := Nn (nmOf (c0.fdiv 256))) (e := fun c => Nn (nmOf (c0.fdiv 256)) c == "a") S4.top hdu (fun r _ => S4.sum r) (show 4 ≤ 1000 by decide) rfl range_4 (by decide)
    (fun c hc => all4_of (P := fun c => IdxOk (.list (all4.map fun c => .int (3 + (h : Int) * 2 + sumW bs c))) (.int c) (.int (3 + (h : Int) * 2 + sumW bs c))) ix_0 ix_1 ix_2 ix_3 hc) (fun c hc => idx_nm hns hc) (fun c hc => cmp_eqS (sign_ok _ ((names_ok _ hns).2.2.1 c hc).1).1 (by decide +kernel)) (beh_eq hn) ?_
  refine lawF (k4 := all4) (k3 := [0, 1, 2]) (P := p) (so := (sortI sp).map .int) (m := m) (bst := (minP (pairs fun x => absI (m - p x))).2) (mm := (minP (pairs fun x => absI (m - p x))).1) S4.top (S4.b 6 rfl (fn_sorted (Nat.lt_of_le_of_lt s5 (by decide)))) (by rw [k2]; exact idx_nat (by rw [List.getElem?_map, hm1]; rfl) (by omega)) range_4 (by decide)
    (fun c hc => all4_of (P := fun c => IdxOk (.list ((all4.map p).map .int)) (.int c) (.int (p c))) ix_0 ix_1 ix_2 ix_3 hc) S4.abs (S4.b 4 rfl (fn_minP (ps := pairs fun x => absI (m - p x)) (Nat.succ_pos 3))) range_3 (by decide) (pw_ok (by decide +kernel)) hle (left_eq hn _) hG
end
section
variable {l : L} {A : Around} {s s₀ : Shared}
theorem stLC_pos {E : Value → Shared → Prop} {env : Env} {m cm : Str → Option Value} {n : Str} {v : Value} {Q : Unit → Shared → Prop} (x : InCallC s₀ env.locals m env.cells cm s) (hk : env.scope.kind = .function) (hl : env.kindOf n = some .local)
    (h : ∀ s', InCallC s₀ env.locals (fun y => if y = n then some v else m y) env.cells cm s' → 0 < s'.toks → Q () s') : wpAny l.M A (storeName env n v) Q E s :=
  wpAny_storeName_local hl x.toInCall.ns (fun h' hn' hs' => h _ ⟨⟨let ⟨_, _, e⟩ := x.toInCall.same; ⟨h', _, by rw [e]⟩, hn', fun b o e => hs'.extBut b o (Nat.ne_of_lt (Nat.lt_of_lt_of_le (Heap.lt_size e) x.toInCall.fresh)) (x.toInCall.keep b o e), x.toInCall.fresh⟩, fun k c hc => (x.cell k c hc).sameBut hs' (Nat.ne_of_gt (x.above k c (mem_of_lookup hc))), x.apart, x.above⟩ (Nat.succ_pos _)) (by rw [hk]; rfl)
theorem newEnv_pos {scope : Scope} {globals : Addr} {n : Str} {v : Value} {qual : Str} {func : Option Addr} {code : Value} {builtins : Addr} {E : Value → Shared → Prop} {Q : Env → Shared → Prop}
    (hk : scope.kind = .function) (hl : scope.names.lookup n = some .local)
    (hQ : ∀ env, env = newEnv scope s.heap.objs.size globals (cellsFrom (s.heap.objs.size + 1) scope.names []) qual func code none builtins →
      ∀ s', InCallC s env.locals (bindL env.kindOf [(n, v)] fun _ => none) env.cells (bindC env.kindOf [(n, v)] fun _ => none) s' → 0 < s'.toks → Q env s') :
    wpAny l.M A (newFunctionEnv scope globals [] [(n, v)] qual func code none builtins) Q E s := by
  simp only [newFunctionEnv, Option.isSome_none, Bool.false_eq_true, if_false]
  refine wpAny_bind (wpAny_alloc ?_)
  refine wpAny_bind (wpAny_layCells _ (fun name kind cells => by cases hkc : kind == NameKind.cell <;> simp [hkc]) _ _ _ _ ?_)
  have ok := cellsFrom_ok scope.names (s.heap.push { cls := .type "frame", data := .dict #[] }) (s.heap.objs.size + 1) [] ⟨fun _ _ hm => (nomatch hm), List.Pairwise.nil⟩ (by rw [Heap.size_push]; exact Nat.le_refl _)
  rw [Heap.size_push] at ok
  rw [show ({ s with heap := s.heap.push { cls := .type "frame", data := .dict #[] } } : Shared).heap.objs.size = s.heap.objs.size + 1 from Heap.size_push ..]
  have hl' : (newEnv scope s.heap.objs.size globals (cellsFrom (s.heap.objs.size + 1) scope.names []) qual func code none builtins).kindOf n = some .local := hl
  refine wpAny_bind ?_
  rw [List.forIn_cons]
  refine wpAny_bind (wpAny_bind (stLC_pos (m := fun _ => none) (cm := fun _ => none) (s₀ := s) ⟨⟨⟨_, _, rfl⟩, (Heap.Ns.new s.heap (.type "frame")).keeps (pushCells_keeps _ _), fun b o e => pushCells_keeps _ _ b o (Heap.get?_push_of_some _ e), Nat.le_refl _⟩,
      fun n c hc => (ok.empty n c (mem_of_lookup hc)).1, ok.apart, fun n c hm => (ok.empty n c hm).2⟩ hk hl' fun s' x' htk => wpAny_pure ?_))
  show wpAny l.M A (forIn [] _ _) _ _ _
  rw [List.forIn_nil]
  refine wpAny_pure (wpAny_pure (hQ _ rfl s' ?_ htk))
  unfold bindL bindC; rw [if_pos hl', if_pos hl']; exact x'
/-- the first call of all -/
theorem fn_first {a : Addr} {fd : FuncData} {body : List Stmt} {n : Str} {x r : AV} {v : Value} {O : Addr → Prop} {ρ' : Ro} (F : FnIs l.h a fd body [n] false) (hl : fd.scope.names.lookup n = some .local) (hlim : l.h.NoLimit) (hh : A.handled = none) (hdep : A.depth + 1 + l.d < recursionLimit) (hu : A.units + 3 + (100 + 20 * l.d) < cLine)
    (hB : Base l.h s.heap) (hO : ∀ b, O b → b < s.heap.objs.size) (hv : RdL s.heap O [x] [v]) (hrun : XS l (fnCx fd) [(n, .fz x)] body (ρ', .ret r)) : wpAny l.M A (call (.ref a) [v]) (Ends O s r) NoE s := by
  obtain ⟨o, hg, hd⟩ := F.obj
  obtain ⟨c, oc, fs, t, hc1, hc2, hc3, hc4, hc5⟩ := F.code
  have hsc := F.scope
  unfold okScope at hsc
  have hk := eq_of_beq (Bool.and_eq_true_iff.mp hsc).1
  refine wpAny_call (codeAny_call_function (Nat.lt_of_le_of_lt (Nat.le_trans (Nat.le_add_right _ 1) (Nat.le_add_right _ _)) hdep) (hB.keep _ _ F.ta hg) hd F.co F.gen F.body ⟨c, oc, fs, t, hc1, hB.keep _ _ hc2 hc3, hc4, hc5⟩ ?_)
  rw [F.bind [v] rfl, F.clo]
  refine wpAny_pure (newEnv_pos (v := v) hk hl fun env he s₁ x htk => ?_)
  subst he
  obtain ⟨⟨h', tk, rfl⟩, hns, hkeep, _⟩ := x.toInCall
  have hLlt : s.heap.objs.size < h'.objs.size := hns.lt
  have k1 : K0 s { s with heap := h', toks := tk } := K0.keep hkeep (Nat.le_of_lt hLlt) fun _ => htk
  have act := frame_act (A' := A.deeper (callEnvC fd s.heap.objs.size a)) (O'' := fun b => O b ∨ (s.heap.objs.size ≤ b ∧ b < h'.objs.size)) F rfl hB hv x (fun _ _ _ _ e => e) (fun b o _ _ e => hkeep b o e) (hB.k0 k1) htk (fun b h => .inr h) (fun b h => h.elim (fun q => Nat.lt_trans (hO b q) hLlt) fun q => q.2) (fun b h => h.elim .inl fun q => .inr q.1) hh hdep hu
  exact ⟨(lim_of hlim hB).keeps hkeep, codeAny_func (wpAny_mono (hrun.ok _ _ act) (fun c s' q => by
    obtain ⟨O', Mu', st, a', v, rfl, hr⟩ := q
    exact ⟨Kp.mono (W := fun b => s.heap.objs.size ≤ b ∧ b < h'.objs.size) (G := fun _ => False) (k1.toW.trans st.k) (fun b hb => .inr (get_none hb.1)) (fun _ h => h.elim), hr.up fun b hb => st.st b (.inl hb) fun z => Nat.lt_irrefl _ (Nat.lt_of_lt_of_le (hO b hb) z.1)⟩) fun _ _ z => z.elim)⟩
end
theorem fdOf_ok {K : Frag} {a : Addr} {fd : FuncData} (h : fdOf K a = some fd) : ∃ o, K.lookup a = some o ∧ o.data = .func fd := by
  unfold fdOf at h
  split at h
  · rename_i o ho
    split at h
    · rename_i fd' hd
      cases h
      exact ⟨o, ho, hd⟩
    · cases h
  · cases h
theorem cdAt_ok {K : Frag} {c : Addr} {q : Str} (h : cdAt K c = some q) : ∃ o vs t, K.lookup c = some o ∧ o.data = .fields vs ∧ vs[1]? = some (.str q t) := by
  unfold cdAt at h
  split at h
  · rename_i o ho
    split at h
    · rename_i vs hd
      split at h
      · rename_i q' t hv
        cases h
        exact ⟨o, vs, t, ho, hd, hv⟩
      · cases h
    · cases h
  · cases h
theorem cdOf_ok {K : Frag} {v : Value} {q : Str} (h : cdOf K v = some q) : ∃ c, v = .ref c ∧ c ≠ TA ∧ cdAt K c = some q := by
  unfold cdOf at h
  split at h
  · rename_i c
    cases e : c == TA with
    | true => rw [e] at h; cases h
    | false => exact ⟨c, rfl, beq_eq_false_iff_ne.mp e, by rw [e] at h; exact h⟩
  · cases h
noncomputable def okI (st : Stmt) (ps : List Str) (g : Bool) : Bool := (okScope (scopeOf st) && (scopeOf st).names.all fun x => x.2 != .free) && (decide ps.Nodup && ps.all fun n => (scopeOf st).names.lookup n == some .local || (scopeOf st).names.lookup n == some .cell) && ((scopeOf st).isCoroutine == false && (scopeOf st).isGenerator == g)
noncomputable abbrev BindT := Str → Str → FuncBody → Scope → Addr → List (Str × Addr) → Value → Value → Option Addr → Value → Value → Addr → Value → Value → Value → Sem (List (Str × Value))
noncomputable def bindF (st : Stmt) (k : Nat) : BindT := fun nm qn body sc gl clo doc pm ann code ct bi a b c => bindArgs ⟨nm, qn, parOf st, body, sc, gl, clo, .none, .none, doc, pm, ann, code, ct, bi⟩ ⟨[a, b, c].take k, []⟩
noncomputable def bindG (ps : List Str) : BindT := fun _ _ _ _ _ _ _ _ _ _ _ _ a b c => pure (ps.zip ([a, b, c].take ps.length))
theorem take3 {vs : List Value} (h : vs.length ≤ 3) : [vs.getD 0 .none, vs.getD 1 .none, vs.getD 2 .none].take vs.length = vs := by
  cases vs with
  | nil => rfl
  | cons a l =>
    cases l with
    | nil => rfl
    | cons b l =>
      cases l with
      | nil => rfl
      | cons c l =>
        cases l with
        | nil => rfl
        | cons d l => exact absurd h (Nat.not_le.mpr (Nat.succ_le_succ (Nat.succ_le_succ (Nat.succ_le_succ (Nat.succ_pos _)))))
theorem bindT_ok {st : Stmt} {ps : List Str} (h : bindF st ps.length = bindG ps) (h3 : ps.length ≤ 3) {fd : FuncData} (h1 : fd.params = parOf st) (h2 : fd.defaults = .none) (h4 : fd.kwdefaults = .none) (vs : List Value) (hv : vs.length = ps.length) : bindArgs fd ⟨vs, []⟩ = pure (ps.zip vs) := by
  have e := congrArg (fun F : BindT => F fd.name fd.qualname fd.body fd.scope fd.globals fd.closure fd.doc fd.pyModule fd.annotations fd.code fd.closureTuple fd.builtins (vs.getD 0 .none) (vs.getD 1 .none) (vs.getD 2 .none)) h
  unfold bindF bindG at e
  rw [← hv, take3 (hv ▸ h3), ← h1] at e
  rw [← h2] at e
  conv at e => lhs; arg 1; arg 9; rw [h2, ← h4]
  exact e
theorem fn_is {K : Frag} {h : Heap} {a : Addr} {st : Stmt} {ps : List Str} {gn : Bool} (KX : K.In h) (hF : (fdOf K a).map (fdT K) = some (wantT st)) (ha : a ≠ TA) (hk : okI st ps gn = true) (hb : bindF st ps.length = bindG ps) (h3 : ps.length ≤ 3) : ∃ fd, FnIs h a fd (bodyOf st) ps gn ∧ fd.scope = scopeOf st ∧ fdOf K a = some fd := by
  obtain ⟨fd, hfd, e⟩ := Option.map_eq_some_iff.mp hF
  obtain ⟨o, ho, hd⟩ := fdOf_ok hfd
  have es : fd.scope = scopeOf st := congrArg (fun e : FdT => e.1.2.2) e
  obtain ⟨c, c1, c2, c3⟩ := cdOf_ok (eq_of_beq (congrArg (fun e : FdT => e.2.2.2.2) e))
  obtain ⟨co, vs, t, c4, c5, c6⟩ := cdAt_ok c3
  obtain ⟨k1, k2⟩ := Bool.and_eq_true_iff.mp hk
  obtain ⟨k1, k3⟩ := Bool.and_eq_true_iff.mp k1
  rw [← es] at k1 k2 k3
  obtain ⟨k4, k5⟩ := Bool.and_eq_true_iff.mp k1
  obtain ⟨k6, k7⟩ := Bool.and_eq_true_iff.mp k3
  obtain ⟨k8, k9⟩ := Bool.and_eq_true_iff.mp k2
  exact ⟨fd, ⟨ha, ⟨o, KX a o ho, hd⟩, ⟨c, co, vs, t, c1, c2, KX c co c4, c5, c6⟩, congrArg (fun e : FdT => e.1.2.1) e, congrArg (fun e : FdT => e.2.1.2.1) e, congrArg (fun e : FdT => e.2.1.1) e, congrArg (fun e : FdT => e.2.2.2.1) e, k4, k5, of_decide_eq_true k6, k7, bindT_ok hb h3 (congrArg (fun e : FdT => e.1.1) e) (congrArg (fun e : FdT => e.2.1.2.2) e) (congrArg (fun e : FdT => e.2.2.1) e), eq_of_beq k8, eq_of_beq k9⟩, es, hfd⟩
theorem iniBody : ∃ p1 p2 p3 p4, bodyOf iniD = [.Assign [.Attribute (.Name "self" p1) "root" p2] (.Name "root" p3) p4] := ⟨_, _, _, _, rfl⟩
theorem allE_ok : (allE.all fun t => okI t.1 t.2.2.1 t.2.2.2 && decide (t.2.1 ≠ TA) && decide (t.2.2.1.length ≤ 3)) = true := by decide +kernel
theorem binds_all : allE.map (fun t => bindF t.1 t.2.2.1.length) = allE.map fun t => bindG t.2.2.1 := by kernel_rfl
theorem boot_all : gloL.map (fun p => bootBuiltins p.1) = gloL.map fun p => some p.2 := by kernel_rfl
theorem glo_ne : ∀ p ∈ gloL, p.1 ≠ ("__name__" : Str) := List.all_eq_true.mp (show gloL.all (fun p => decide (p.1 ≠ ("__name__" : Str))) = true by decide +kernel) |> fun h p hp => of_decide_eq_true (h p hp)
section
variable {K : Frag} {h : Heap} {mg mb : Str → Option Value}
theorem KHead.fn (H : KHead K) (KX : K.In h) {st : Stmt} {a : Addr} {ps : List Str} {gn : Bool} (ht : (st, a, ps, gn) ∈ allE) : ∃ fd, FnIs h a fd (bodyOf st) ps gn ∧ fd.scope = scopeOf st ∧ fdOf K a = some fd := by
  obtain ⟨h1, h2⟩ := Bool.and_eq_true_iff.mp (List.all_eq_true.mp allE_ok _ ht)
  obtain ⟨h1, h3⟩ := Bool.and_eq_true_iff.mp h1
  exact fn_is KX (List.map_inj_left.mp H.fns _ ht) (of_decide_eq_true h3) h1 (List.map_inj_left.mp binds_all _ ht) (of_decide_eq_true h2)
theorem cls_of (H : KHead K) (KX : K.In h) : ClsIs h 99 := by
  obtain ⟨nm, q, bs, sn, sub, col, dd, k0, k1, k2, k3, k5, hc⟩ := H.cls
  obtain ⟨fd, hF, hs, -⟩ := H.fn KX (.head _)
  obtain ⟨o, ho, hcl⟩ := H.ini
  obtain ⟨p1, p2, p3, p4, hb⟩ := iniBody
  have hcx : fnCx fd = cxOf iniD := congrArg (fun sc => Cx.mk sc (ownOf sc)) hs
  have e := List.cons.inj H.ms
  have e2 := List.cons.inj e.2
  have e3 := List.cons.inj e2.2
  have e4 := List.cons.inj e3.2
  exact ⟨⟨nm, q, 101, bs, sn, sub, col, dd, k0, k1, k2, k3, k5, kns K 101, KX _ _ hc, by decide, kns_of KX H.n101, H.m1, e.1, e2.1, e3.1, e4.1⟩, ⟨fd, o, _, p1, p2, p3, p4, hF, KX _ _ ho, hcl, hb, by rw [hcx]; decide +kernel, by rw [hcx]; decide +kernel⟩⟩
theorem site_of (H : KHead K) (KX : K.In h) (g : h.Ns mainGlobals mg) (b : h.Ns builtinsNs mb) (hlim : h.NoLimit) (hb : ∀ x : Str, x ≠ "__name__" → mb x = bootBuiltins x)
    (hbm : ∃ bm ob, mg "__builtins__" = some (.ref bm) ∧ bm ≠ builtinsNs ∧ h.get? bm = some ob ∧ ob.cls = .type "module" ∧ ob.dict = some builtinsNs ∧ ob.data = .plain) : Site h := by
  have hm := kns_eq KX H.n3 g
  have G : ∀ {x : Str} {v : Value}, kns K mainGlobals x = some v → GlobIs h x v := fun hx => ⟨mg, mb, g, b, .inl (by rw [hm]; exact hx)⟩
  have R : ∀ j {x a}, refL[j]? = some (x, a) → GlobIs h x (.ref a) := fun j {x a} e => G (List.map_inj_left.mp H.refs _ (mem_at j e))
  refine ⟨hlim, fun p hp => ⟨mg, mb, g, b, .inr ⟨by rw [hm]; exact List.map_inj_left.mp H.glo p hp, by rw [hb p.1 (glo_ne p hp)]; exact List.map_inj_left.mp boot_all p hp⟩⟩, fun p hp => ?_, R 2 rfl, R 3 rfl, ?_, cls_of H KX, ?_, ⟨R 0 rfl, ?_⟩, ⟨R 1 rfl, ?_⟩, fun t ht => ?_⟩
  · rcases List.mem_cons.mp hp with rfl | hp
    · obtain ⟨t, e⟩ := H.c13'; exact ⟨t, G e⟩
    rcases List.mem_cons.mp hp with rfl | hp
    · obtain ⟨t, e⟩ := H.c16'; exact ⟨t, G e⟩
    · obtain ⟨t, e⟩ := H.c23'; rw [List.mem_singleton.mp hp]; exact ⟨t, G e⟩
  · obtain ⟨src, t1, t2, hp⟩ := H.pat
    exact ⟨⟨src, t1, t2, KX _ _ hp⟩, KX _ _ H.code⟩
  · obtain ⟨o3, vs, file, tf, flags, tg, inF, text, tt, q1, q2, q3, q4, q5, q6, q7, q8, q9⟩ := H.c84
    refine ⟨⟨mg, g, ?_⟩, ⟨o3, vs, file, tf, flags, tg, inF, text, tt, KX _ _ q1, q2, q3, q4, q5, q6, q7, q8, q9, by decide⟩⟩
    obtain ⟨bm, ob, z1, z2, z3, z4, z5, z6⟩ := hbm
    have e4 : mg "__builtins__" = some (.ref 4) := by rw [hm]; exact List.map_inj_left.mp H.refs _ (mem_at 4 rfl)
    cases z1.symm.trans e4
    exact ⟨4, ob, e4, z2, by decide, by decide, z3, z4, z5, z6⟩
  · obtain ⟨fd, hF, hs, hfd⟩ := H.fn KX (.tail _ (.head _))
    have e := H.prep
    rw [hfd] at e
    have e := Option.some.inj e
    exact ⟨fd, ⟨hF, hs⟩, congrArg Prod.fst e, congrArg Prod.snd e⟩
  · obtain ⟨fd, hF, hs, -⟩ := H.fn KX (.tail _ (.tail _ (.head _)))
    exact ⟨fd, hF, hs⟩
  · obtain ⟨fd, hF, hs, -⟩ := H.fn KX (.tail _ (.tail _ (.tail _ (List.mem_map.mpr ⟨t, ht, rfl⟩))))
    exact ⟨G (List.map_inj_left.mp H.refs (t.2.1, t.2.2.1) (.tail _ (.tail _ (.tail _ (.tail _ (.tail _ (List.mem_map.mpr ⟨t, ht, rfl⟩))))))), fd, hF, hs⟩
end
theorem base_self {h : Heap} (hT : h.get? TA = some (tabObj #[])) : Base h h := by
  refine ⟨fun _ _ _ e => e, ⟨_, hT⟩, Nat.le_refl _, ⟨#[], hT, ?_, fun pos cv e => ?_⟩⟩
  · exact True.intro
  · cases e
theorem good_true {xs : List WData} {cl : Str → Option Addr} {mean : ExcName → Option Value} {s s' : Shared} (k : K0 s s') (hg : s.gens = #[]) {K : Frag} (KX : K.In s.heap) (H : KHead K) (hT : s.heap.get? TA = some (tabObj #[])) :
    GoodWG PySem.Challenge.rw_jc0013_01.row.claim cl mean [.list xs] s (.ok (.ret (.bool true))) s' := by
  have hold : ∀ b o, s.heap.get? b = some o → asItWas s.heap s'.heap b o ∧ ∃ o', s'.heap.get? b = some o' := fun b o e => by
    by_cases hb : b = TA
    · subst hb
      rw [hT] at e; cases e
      obtain ⟨vs, hv⟩ := k.tab ⟨_, hT⟩
      obtain ⟨o3, ws, file, tf, flags, tg, inF, text, tt, q1, q2, q3, q4, -⟩ := H.c84
      exact ⟨.inr (.inl ⟨⟨84, o3, ws, KX _ _ q1, q2, q3, q4⟩, rfl, #[], vs, rfl, by rw [hv]; simp⟩), _, hv⟩
    · have := k.heap b o hb (fun h => h) e
      exact ⟨.inl this, _, this⟩
  refine ⟨.inl ⟨_, .bool true, [], rfl, fun _ => rfl, .bool true, ?_, fun _ => ⟨List.nodup_nil, fun a h => by cases h⟩⟩, ⟨fun b o e => (hold b o e).1, fun b o e => (hold b o e).2⟩, k.os, k.bare (.of_eq hg)⟩
  wrow_post
theorem ints_rd {h : Heap} {O : Addr → Prop} : ∀ {vs : List Value} {ns : List Int}, IntsAre vs ns → vs.length = ns.length ∧ RdL h O (ns.map .int) vs
  | _, _, .nil => ⟨rfl, rdl_nil.mpr rfl⟩
  | _, _, .cons n t k => ⟨by rw [List.length_cons, List.length_cons, (ints_rd (h := h) (O := O) k).1], rdl_cons.mpr ⟨_, _, rfl, rd_int.mpr ⟨t, rfl⟩, (ints_rd k).2⟩⟩
theorem law_fn {prog : Program} {w : World} {s : Shared} {ns : List Int} {la : Addr} {vs : Array Value} (S : Site s.heap) (hT : s.heap.get? TA = some (tabObj #[])) (hn : ns.length < 64) (hl : s.heap.get? la = some { cls := .type "list", data := .seq vs }) (hI : IntsAre vs.toList ns) :
    wpAny (model prog w) callerA (call (.ref 162) [.ref la]) (fun v s' => K0 s s' ∧ v = .bool true) NoE s := by
  let l : L := ⟨prog, w, s.heap, 0⟩
  have S : Site l.h := S
  obtain ⟨c0, c1, c2, c3, hc⟩ := S.cells hn
  obtain ⟨ρ', hr⟩ := S.law hc
  obtain ⟨g, fd, F, hs⟩ := S.fns _ (mem_at 14 rfl)
  have hI := ints_rd (h := s.heap) (O := fun _ => False) hI
  have hne : la ≠ TA := fun e => by rw [e, hT] at hl; cases hl
  have hrd : RdL s.heap (fun _ => False) [.list (ns.map .int)] [.ref la] := .single (rd_list.mpr ⟨la, vs, _, rfl, fun h => h, hne, hl, by rw [← Array.length_toList, hI.1, sizeLine_eq]; exact Nat.le_trans (Nat.le_of_lt hn) (by decide), hI.2⟩)
  refine wpAny_mono (fn_first (l := l.up.up.up.up) (O := fun _ => False) F (by rw [hs]; decide +kernel) S.lim rfl (show callerA.depth + 1 + 4 < recursionLimit by decide) (show callerA.units + 3 + (100 + 20 * 4) < cLine by decide) (base_self hT) (fun _ h => h.elim) hrd (by rw [show fnCx fd = cx27 from congrArg (fun sc => Cx.mk sc (ownOf sc)) hs]; exact hr)) (fun v s' q => ?_) fun _ _ z => z
  exact ⟨q.1, rd_bool.mp q.2⟩
/-- the law's call -/
theorem law_wp {prog : Program} {w : World} {cl : Str → Option Addr} {mean : ExcName → Option Value} {s : Shared} {K : Frag} {fa : Addr} {args : List WData} {vals : List Value} {as : List Addr}
    (KX : K.In s.heap) (H : KHead K) (hT : s.heap.get? TA = some (tabObj #[])) (hg : s.gens = #[]) (S : Site s.heap) (hfa : fa = 162)
    (hpre : PySem.Challenge.rw_jc0013_01.row.claim.pre args = true) (hlay : WData.layableAll args = true) (hrd : ReadsAllW PySem.Challenge.rw_jc0013_01.row.records cl s.heap vals args as) (hwl : WellAll w.params s.heap vals args) (hlo : ∀ (a : Addr), a ∈ as → (a == sysModules) = false) :
    wpAny (model prog w) callerA ((fun f vs => call f vs) (Value.ref fa) vals) (fun v s' => GoodWG PySem.Challenge.rw_jc0013_01.row.claim cl mean args s (.ok (.ret v)) s') (fun e s' => GoodWG PySem.Challenge.rw_jc0013_01.row.claim cl mean args s (.error e) s') s := by
  have hwl0 := hwl
  wrow_args hpre hlay hrd hwl hlo
  rename_i ns hs a1 a2 a3 a4 b4 b3 la vs b0 hL ra wl r0 hI hr hc hc0
  clear hc0 hr r0 ra a1 a2 a3 a4 hs
  have hla : s.heap.get? la = some { cls := .type "list", data := .seq vs.toArray } := by
    cases wl with
    | list h1 h2 =>
      obtain ⟨o, e1, e2, n, e3⟩ := hL
      rw [h1] at e1; cases e1
      cases e3
      exact h1
  have hn : ns.length < 64 := by
    have : ¬ (63 : Int) < ns.length := hc
    omega
  subst hfa
  refine wpAny_mono (law_fn S hT hn hla (by rw [List.toList_toArray]; exact hI)) (fun v s' q => ?_) fun _ _ z => z.elim
  rw [q.2]
  exact good_true q.1 hg KX H hT
theorem lawAt : LawAt := by
  intro prog w cl mean s K fa args vals as mg mb KX H hT hg g b nl bu bm hfa hpre hlay hrd hwl hlo
  exact law_wp KX H hT hg (site_of H KX g b nl bu bm) hfa hpre hlay hrd hwl hlo
theorem T3 : PySem.Challenge.rw_jc0013_01.Holds := headT lawAt
end J
theorem PySem.Challenge.cw_jc0013_01_holds : PySem.Challenge.rw_jc0013_01.Holds := by
  exact J.T3
