import PyProof.Rows.All
import Wide.All
import OpenK.AllK
import Wide.FinOn
import PySem.Challenge.RW_jb0031_01
open PySem PySem.W PyProof.Rows PySem.Calls PySem.Spec
set_option Elab.async false
set_option maxRecDepth 100000
set_option maxHeartbeats 8000000
set_option linter.unusedVariables false
set_option linter.unusedSimpArgs false
set_option compiler.extract_closed false
-- builders of the tactic lines that stand often in the rules below: each gives the syntax that its name says, from the words of a string
def Mine.sNd (k : Lean.Name) (as : List Lean.Syntax) : Lean.Syntax := .node .none k as.toArray
def Mine.sAt (s : String) : Lean.Syntax := .atom .none s
def Mine.sSep (c : String) : List Lean.Syntax → List Lean.Syntax
  | [] => []
  | [t] => [t]
  | t :: ts => t :: Mine.sAt c :: Mine.sSep c ts
def Mine.sTac (s : String) (as : List Lean.Syntax) : Lean.Syntax := Mine.sNd (.mkStr4 "Lean" "Parser" "Tactic" s) as
def Mine.sNull (as : List Lean.Syntax) : Lean.Syntax := Mine.sNd `null as
def Mine.sSeq (ts : List Lean.Syntax) : Lean.Syntax := Mine.sTac "tacticSeq" [Mine.sTac "tacticSeq1Indented" [Mine.sNull (Mine.sSep ";" ts)]]
def Mine.sPar (ts : List Lean.Syntax) : Lean.Syntax := Mine.sTac "paren" [Mine.sAt "(", Mine.sSeq ts, Mine.sAt ")"]
def Mine.sId (s : String) : Lean.Syntax := Lean.mkIdent ((s.splitOn ".").foldl Lean.Name.mkStr .anonymous)
def Mine.sLoc (s : String) : Lean.Syntax := Lean.mkIdent (Lean.addMacroScope `Mine (.mkSimple s) 1)
def Mine.sIdent (s : String) : Lean.Ident := ⟨Mine.sLoc s⟩
def Mine.sTm (k : String) (as : List Lean.Syntax) : Lean.Syntax := Mine.sNd (.mkStr4 "Lean" "Parser" "Term" k) as
def Mine.sHole (s : String) : Lean.Syntax := Mine.sTm "syntheticHole" [Mine.sAt "?", if s == "_" then Mine.sAt "_" else Mine.sId s]
def Mine.sWords (s : String) (f : String → Lean.Syntax) : List Lean.Syntax := (s.splitOn " ").map f
def Mine.sRefine (l s : String) : Lean.Syntax := Mine.sTac "refine'" [Mine.sAt "refine'", Mine.sTm "app" [Mine.sId l, Mine.sNull (Mine.sWords s Mine.sHole)]]
def Mine.sFirst (ts : List Lean.Syntax) : Lean.Syntax := Mine.sTac "first" [Mine.sAt "first", Mine.sNull (ts.map fun t => Mine.sNd `group [Mine.sAt "|", Mine.sSeq [t]])]
def Mine.sExact (s : String) : Lean.Syntax := Mine.sTac "exact" [Mine.sAt "exact", Mine.sId s]
def Mine.sCase (s : String) (t : Lean.Syntax) : Lean.Syntax := Mine.sTac "case" [Mine.sAt "case", Mine.sNull (Mine.sSep "|" (Mine.sWords s fun n => Mine.sTac "caseArg" [Mine.sNd (.mkStr2 "Lean" "binderIdent") [Mine.sId n], Mine.sNull []])), Mine.sAt "=>", Mine.sSeq [t]]
def Mine.sIntro (s : String) : Lean.Syntax := Mine.sTac "intro" [Mine.sAt "intro", Mine.sNull (Mine.sWords s Mine.sLoc)]
def Mine.sRun (t : Lean.Unhygienic (Lean.TSyntax `tactic)) : Lean.Syntax := t.run
def Mine.sDflt (t : Lean.Syntax) : Lean.Syntax := Mine.sRun `(tactic| k_dflt ($(⟨t⟩):tactic; k_whole))
def Mine.sHold (s : String) : Lean.MacroM Lean.Syntax := return Mine.sRun `(tactic| (with_reducible refine $(⟨Mine.sId s⟩) ?_))
def Mine.sName (s : String) : Lean.MacroM Lean.Syntax := return Mine.sRun `(tactic| (k_here; k_dflt (refine' $(⟨Mine.sId s⟩) (h := ?_); k_whole)))
def Mine.sRef (s : String) : Lean.MacroM Lean.Syntax := return Mine.sRun `(tactic| with_reducible $(⟨Mine.sFirst (Mine.sWords s fun n => Mine.sTac "refine" [Mine.sAt "refine", Mine.sTm "app" [Mine.sId n, Mine.sNull [Mine.sHole "_"]]])⟩):tactic)
def Mine.sAny (s : String) : Lean.Syntax := Mine.sFirst (Mine.sWords s Mine.sExact)
def Mine.sTail : Lean.Syntax := Mine.sRun `(tactic| ((try k_sweep); (try dsimp only)))
def Mine.sKeep : Lean.Syntax := Mine.sRun `(tactic| ((have $(Mine.sIdent "l1'"):ident := $(Mine.sIdent "l1")); (try k_lt $(Mine.sIdent "l1"))))
def Mine.sHere : Lean.Syntax := Mine.sRun `(tactic| k_here)
def Mine.sCall (s xs : String) (b : Bool) : Lean.MacroM Lean.Syntax := return Mine.sPar ([Mine.sHere, Mine.sDflt (Mine.sRun `(tactic| refine' $(⟨Mine.sId s⟩) (ret := ?_))), Mine.sIntro xs] ++ (if b then [Mine.sKeep] else []) ++ [Mine.sTail])
def Mine.sRfl : Lean.Syntax := Mine.sExact "rfl"
def Mine.sAsm : Lean.Syntax := Mine.sRun `(tactic| k_asm)
def Mine.sIs : Lean.Syntax := Mine.sRun `(tactic| k_is)
def Mine.sWhole : Lean.Syntax := Mine.sRun `(tactic| k_whole)
def Mine.sArgs : List Lean.Syntax := [Mine.sCase "kA" Mine.sRfl, Mine.sCase "kF kK" (Mine.sRun `(tactic| first | exact rfl | assumption)), Mine.sCase "k1 k2 k3 k4 k5" Mine.sAsm, Mine.sCase "k6 k7" Mine.sIs, Mine.sCase "k8" (Mine.sRun `(tactic| k_room))]
def Mine.sK9 (b : Bool) : Lean.Syntax := let ts := [Mine.sRun `(tactic| exact BindsTo.of_eq rfl), Mine.sRun `(tactic| exact binds_K (by k_in) rfl (by k_is) rfl rfl rfl)]; Mine.sCase "k9" (Mine.sFirst (if b then ts else ts.reverse))
def Mine.sDec : Lean.Syntax := Mine.sCase "c5" (Mine.sRun `(tactic| decide))
def Mine.sSame (s : String) : Lean.Syntax := Mine.sCase s Mine.sRfl
def Mine.sDs : Lean.Syntax := Mine.sRun `(tactic| (try dsimp only))
def Mine.sFold : Lean.Syntax := Mine.sRun `(tactic| (try k_fold))
def Mine.sLift : Lean.Syntax := Mine.sRun `(tactic| (try k_lift $(Mine.sIdent "zB")))
def Mine.sEnter (s : String) (b lift : Bool) : Lean.Syntax := Mine.sPar ([Mine.sRefine s "k1 k2 k3 k4 k5 kA kF kK k6 k7 k8 k9 kB _ c2 c3 c4 c5"] ++ Mine.sArgs ++ [Mine.sK9 b, Mine.sDec, Mine.sCase "kB" (Mine.sRun `(tactic| exact locs rfl)), Mine.sSame "c2 c3 c4", Mine.sWhole, Mine.sIntro "zg zL zh zFG zF zN zB zX zT", Mine.sDs] ++ (if lift then [Mine.sLift] else []) ++ [Mine.sFold])
def Mine.sEnterC (s : String) : Lean.Syntax := Mine.sPar ([Mine.sRefine s "k1 k2 k3 k4 k5 kA kF kK k6 k7 k8 k9 kB kD _ c2 c3 c4"] ++ Mine.sArgs ++ [Mine.sK9 true, Mine.sSame "kB", Mine.sCase "kD" (Mine.sRun `(tactic| decide +kernel)), Mine.sSame "c2 c3 c4", Mine.sWhole, Mine.sIntro "zg zL zh zt zc zFG zF zN zY zB zX zT zl", Mine.sRun `(tactic| ((try k_lt $(Mine.sIdent "zl")); k_cells $(Mine.sIdent "zY"); (try simp only [List.cons_append, List.nil_append] at $(Mine.sIdent "zN"):ident))), Mine.sDs, Mine.sLift, Mine.sFold])
def Mine.sEnter2 (a b : String) : Lean.MacroM Lean.Syntax := return Mine.sFirst [Mine.sEnter a true true, Mine.sEnterC b]
def Mine.sBoth (s : String) : Lean.MacroM Lean.Syntax := return Mine.sPar ([Mine.sRefine s "k1 k2 k3 k4 k5 kA kF kK k6 k7 k8 kV kX kQ kM kN kD kR kP kS kT kB _ c2 c3 c4 c5"] ++ Mine.sArgs ++ [Mine.sCase "kV kX" (Mine.sRun `(tactic| kp_lit)), Mine.sSame "kQ kM kN", Mine.sCase "kD" (Mine.sRun `(tactic| kp_flats)), Mine.sSame "kR kP", Mine.sCase "kS" (Mine.sRun `(tactic| exact fun _ => rfl)), Mine.sCase "kT" (Mine.sRun `(tactic| exact fun _ _ => rfl)), Mine.sCase "kB" (Mine.sRun `(tactic| exact fun _ _ => locs rfl)), Mine.sDec, Mine.sSame "c2 c3 c4", Mine.sWhole])
def Mine.aT0 : Lean.Syntax := Mine.sSeq [Mine.sRun `(tactic| assumption)]
def Mine.aT1 : Lean.Syntax := Mine.sSeq [Mine.sRun `(tactic| exact rfl)]
def Mine.aT2 : Lean.Syntax := Mine.sSeq [Mine.sRun `(tactic| omega)]
def Mine.aT3 : Lean.Syntax := Mine.sSeq [Mine.sRun `(tactic| with_reducible assumption)]
def Mine.aT4 : Lean.Syntax := Mine.sSeq [Mine.sRun `(tactic| ktr_rel)]
def Mine.aT5 : Lean.Syntax := Mine.sSeq [Mine.sRun `(tactic| k_asm)]
def Mine.aT6 : Lean.Syntax := Mine.sSeq [Mine.sRun `(tactic| ((try simp only [List.length_append, List.length_cons, List.length_nil]); omega))]
def Mine.aT7 : Lean.Syntax := Mine.sSeq [Mine.sRun `(tactic| k_all)]
def Mine.aT8 : Lean.Syntax := Mine.sSeq [Mine.sRun `(tactic| k_mem)]
def Mine.aT9 : Lean.Syntax := Mine.sSeq [Mine.sRun `(tactic| rfl)]
def Mine.aT10 : Lean.Syntax := Mine.sSeq [Mine.sRun `(tactic| decide)]
def Mine.aT11 : Lean.Syntax := Mine.sSeq [Mine.sRun `(tactic| with_unfolding_all rfl)]
def Mine.aT12 : Lean.Syntax := Mine.sSeq [Mine.sRun `(tactic| (intro _; with_unfolding_all rfl))]
def Mine.aT13 : Lean.Syntax := Mine.sSeq [Mine.sRun `(tactic| (intro _; rfl))]
namespace Mine
/-- the row is well said: ahead of all, while there is room; its dearest part (the look at the text's roads) is a lemma of its own -/
theorem j_said : OpenLaw.wellSaid PySem.Challenge.rw_jb0031_01 = true := by
  rw [PySem.W.Fast.te9446332074065402090]
  delta PySem.W.Fast.tw9446332074065402090
  iterate 18 refine look_both ?_ (by kernel_rfl)
  delta PySem.W.Fast.tw17960256430627541270
  iterate 2 refine look_both ?_ (by kernel_rfl)
  delta PySem.W.Fast.tw2436336058641802641
  iterate 13 refine look_both ?_ (by kernel_rfl)
  delta PySem.W.Fast.tw12908688711261696721
  refine look_both ?_ (by kernel_rfl)
  refine look_both (by as_aux_lemma => (iterate 3 refine look_both ?_ (by kernel_rfl)); kernel_rfl) (by as_aux_lemma => kernel_rfl)
end Mine
namespace Mine
/-- the head: the top run by the kernel, in 6 pieces, over the heap's objects as they stand at each piece's end -/
noncomputable abbrev pw : Program := PySem.Challenge.pw_jb0031_01
noncomputable def stAt (i : Nat) : Stmt := pw.main.body.getD i (.Pass ⟨0, 0, 0, 0⟩)
noncomputable def inAt (i j : Nat) : Stmt := match stAt i with | .ClassDef _ _ _ b _ _ _ _ _ _ _ => b.getD j (.Pass ⟨0, 0, 0, 0⟩) | s => s
noncomputable abbrev kE (P : Params) (x : Str) (t : Nat) (v : Value) : DictEntry := ⟨PyData.keyHash P x, .str x t, v⟩
noncomputable abbrev tO (l : List Value) (n : Nat) : Obj := ⟨.type "tuple", none, .seq l.toArray n, #[]⟩
noncomputable abbrev dO (l : List DictEntry) (n : Nat) : Obj := ⟨.type "dict", none, .dict l.toArray n, #[]⟩
noncomputable def fO (cls : Value) (st : Stmt) (qual : Str) (g : Addr) (cl : List (Str × Addr)) (dv kv dc pm : Value) (an : Option Addr) (cd ct : Value) (bi : Addr) : Obj := match st with
  | .FunctionDef n a b _ _ _ sc _ _ _ => ⟨cls, none, .func { name := n, qualname := qual, params := a, body := .stmts b, scope := sc, globals := g, closure := cl, defaults := dv, kwdefaults := kv, doc := dc, pyModule := pm, annotations := an, code := cd, closureTuple := ct, builtins := bi }, #[]⟩
  | _ => default
noncomputable def o11 (P : Params) : Obj := tO [] 0
noncomputable def o12 (P : Params) : Obj := ⟨.none, none, .fields #[], #[]⟩
noncomputable def o13 (P : Params) : Obj := ⟨.type "code", none, .fields #[.str "<module>" 182, .str "<module>" 183, .str "/claim/cut.py" 184, .int 1 0, .int 0 0, .int 0 0, .int 0 0, .int 0 0, .ref 11, .bool false, .int 181 0, .ref 12, .none, .none, .none, .none, .int 185 0, .int 1 0, .str "/claim/cut.py" 186], #[]⟩
noncomputable def o14 (P : Params) : Obj := ⟨.type "frame", none, .plain, #[(some (.ref 13)), (some (.ref 3)), (some (.ref 3)), none, (some (.str "__main__" 164)), none, (some (.ref 0))]⟩
noncomputable def o3 (P : Params) : Obj := dO [kE P "__name__" 165 (.str "rectpack.pack_algo" 423), kE P "__doc__" 166 .none, kE P "__package__" 167 .none, kE P "__loader__" 168 (.builtin "__main__.__loader__#opaque"), kE P "__spec__" 169 .none, kE P "__annotations__" 170 (.ref 6), kE P "__builtins__" 171 (.ref 4), kE P "__file__" 173 (.str "/claim/cut.py" 172), kE P "__cached__" 174 .none, kE P "_wall" 193 (.ref 21), kE P "Point" 243 (.ref 52), kE P "Rectangle" 422 (.ref 203)] 12
noncomputable def o12v1 (P : Params) : Obj := ⟨.none, none, .fields #[.int 1 0, .int 0 0, .ref 20, .int 5 0, .int 0 0, .ref 27, .int 16 0, .int 0 0, .ref 62], #[]⟩
noncomputable def o15 (P : Params) : Obj := tO [] 0
noncomputable def o16 (P : Params) : Obj := ⟨.none, none, .fields #[], #[]⟩
noncomputable def o17 (P : Params) : Obj := tO [.str "k" 190] 0
noncomputable def o18 (P : Params) : Obj := tO [] 0
noncomputable def o19 (P : Params) : Obj := fO .none (stAt 0) "_wall" 0 [] .none .none .none .none none .none .none 0
noncomputable def o20 (P : Params) : Obj := ⟨.type "code", none, .fields #[.str "_wall" 187, .str "_wall" 188, .str "/claim/cut.py" 189, .int 1 0, .int 1 0, .int 0 0, .int 0 0, .int 3 0, .ref 15, .bool true, .int 181 0, .ref 16, .none, .ref 17, .ref 18, .ref 19, .int 191 0, .int 1 0, .str "/claim/cut.py" 192], #[]⟩
noncomputable def o21 (P : Params) : Obj := fO (.type "function") (stAt 0) "_wall" 3 [] .none .none .none (.str "__main__" 164) none (.ref 20) .none 0
noncomputable def o22 (P : Params) : Obj := tO [.type "object"] 0
noncomputable def o23 (P : Params) : Obj := ⟨.type "builtin_function_or_method", none, .fields #[.builtin "type.__prepare__", .type "type"], #[]⟩
noncomputable def o24 (P : Params) : Obj := dO [kE P "__module__" 203 (.str "rectpack.geometry" 194), kE P "__qualname__" 205 (.str "Point" 204), kE P "__firstlineno__" 207 (.int 5 206), kE P "__init__" 216 (.ref 35), kE P "__eq__" 224 (.ref 42), kE P "distance_squared" 232 (.ref 49), kE P "__static_attributes__" 235 (.ref 50)] 7
noncomputable def o25 (P : Params) : Obj := tO [] 0
noncomputable def o26 (P : Params) : Obj := ⟨.none, none, .fields #[.int 7 0, .int 4 0, .ref 34, .int 11 0, .int 4 0, .ref 41, .int 14 0, .int 4 0, .ref 48], #[]⟩
noncomputable def o27 (P : Params) : Obj := ⟨.type "code", none, .fields #[.str "Point" 198, .str "Point" 199, .str "/claim/cut.py" 200, .int 5 0, .int 0 0, .int 0 0, .int 0 0, .int 0 0, .ref 25, .bool false, .int 181 0, .ref 26, .none, .none, .none, .none, .int 201 0, .int 5 0, .str "/claim/cut.py" 202], #[]⟩
noncomputable def o28 (P : Params) : Obj := ⟨.type "frame", none, .plain, #[(some (.ref 27)), (some (.ref 3)), (some (.ref 24)), none, (some (.str "rectpack.geometry" 194)), none, (some (.ref 0))]⟩
noncomputable def o29 (P : Params) : Obj := tO [] 0
noncomputable def o30 (P : Params) : Obj := ⟨.none, none, .fields #[], #[]⟩
noncomputable def o31 (P : Params) : Obj := tO [.str "self" 211, .str "x" 212, .str "y" 213] 0
noncomputable def o32 (P : Params) : Obj := tO [] 0
noncomputable def o33 (P : Params) : Obj := fO .none (inAt 2 0) "Point.__init__" 0 [] .none .none .none .none none .none .none 0
noncomputable def o34 (P : Params) : Obj := ⟨.type "code", none, .fields #[.str "__init__" 208, .str "Point.__init__" 209, .str "/claim/cut.py" 210, .int 7 0, .int 3 0, .int 0 0, .int 0 0, .int 3 0, .ref 29, .bool true, .int 181 0, .ref 30, .none, .ref 31, .ref 32, .ref 33, .int 214 0, .int 7 0, .str "/claim/cut.py" 215], #[]⟩
noncomputable def o35 (P : Params) : Obj := fO (.type "function") (inAt 2 0) "Point.__init__" 3 [] .none .none .none (.str "rectpack.geometry" 194) none (.ref 34) .none 0
noncomputable def o36 (P : Params) : Obj := tO [] 0
noncomputable def o37 (P : Params) : Obj := ⟨.none, none, .fields #[], #[]⟩
noncomputable def o38 (P : Params) : Obj := tO [.str "self" 220, .str "other" 221] 0
noncomputable def o39 (P : Params) : Obj := tO [] 0
noncomputable def o40 (P : Params) : Obj := fO .none (inAt 2 1) "Point.__eq__" 0 [] .none .none .none .none none .none .none 0
noncomputable def o41 (P : Params) : Obj := ⟨.type "code", none, .fields #[.str "__eq__" 217, .str "Point.__eq__" 218, .str "/claim/cut.py" 219, .int 11 0, .int 2 0, .int 0 0, .int 0 0, .int 3 0, .ref 36, .bool true, .int 181 0, .ref 37, .none, .ref 38, .ref 39, .ref 40, .int 222 0, .int 11 0, .str "/claim/cut.py" 223], #[]⟩
noncomputable def o42 (P : Params) : Obj := fO (.type "function") (inAt 2 1) "Point.__eq__" 3 [] .none .none .none (.str "rectpack.geometry" 194) none (.ref 41) .none 0
noncomputable def o43 (P : Params) : Obj := tO [] 0
noncomputable def o44 (P : Params) : Obj := ⟨.none, none, .fields #[], #[]⟩
noncomputable def o45 (P : Params) : Obj := tO [.str "self" 228, .str "point" 229] 0
noncomputable def o46 (P : Params) : Obj := tO [] 0
noncomputable def o47 (P : Params) : Obj := fO .none (inAt 2 2) "Point.distance_squared" 0 [] .none .none .none .none none .none .none 0
noncomputable def o48 (P : Params) : Obj := ⟨.type "code", none, .fields #[.str "distance_squared" 225, .str "Point.distance_squared" 226, .str "/claim/cut.py" 227, .int 14 0, .int 2 0, .int 0 0, .int 0 0, .int 3 0, .ref 43, .bool true, .int 181 0, .ref 44, .none, .ref 45, .ref 46, .ref 47, .int 230 0, .int 14 0, .str "/claim/cut.py" 231], #[]⟩
noncomputable def o49 (P : Params) : Obj := fO (.type "function") (inAt 2 2) "Point.distance_squared" 3 [] .none .none .none (.str "rectpack.geometry" 194) none (.ref 48) .none 0
noncomputable def o50 (P : Params) : Obj := tO [.str "x" 233, .str "y" 234] 0
noncomputable def o51 (P : Params) : Obj := dO [kE P "__module__" 203 (.str "rectpack.geometry" 194), kE P "__firstlineno__" 207 (.int 5 206), kE P "__init__" 216 (.ref 35), kE P "__eq__" 224 (.ref 42), kE P "distance_squared" 232 (.ref 49), kE P "__static_attributes__" 235 (.ref 50), kE P "__dict__" 237 (.ref 53), kE P "__weakref__" 239 (.ref 54), kE P "__doc__" 240 .none, kE P "__hash__" 241 .none] 5
noncomputable def o52 (P : Params) : Obj := ⟨.type "type", none, .cls { name := "Point", bases := [.type "object"], mro := [.ref 52, .type "object"], ns := 51, qualname := "Point", hasDict := true, slotNames := [], subclasses := [], abstract := false, collection := none, hasDel := false }, #[(some (.ref 22)), none, (some (.str "Point" 196)), (some (.str "Point" 204)), (some (.builtin "object.__new__")), (some (.bool true))]⟩
noncomputable def o53 (P : Params) : Obj := ⟨.type "getset_descriptor", none, .fields #[.str "__dict__" 236, .ref 52, .builtin "function.__dict__", .builtin "function.__dict__#set"], #[]⟩
noncomputable def o54 (P : Params) : Obj := ⟨.type "getset_descriptor", none, .fields #[.str "__weakref__" 238, .ref 52, .builtin "ExceptionGroup.__weakref__", .none], #[]⟩
noncomputable def o55 (P : Params) : Obj := ⟨.type "super", none, .fields #[.ref 52, .ref 52, .ref 52], #[]⟩
noncomputable def o56 (P : Params) : Obj := ⟨.type "builtin_function_or_method", none, .fields #[.builtin "object.__init_subclass__", .ref 52], #[]⟩
noncomputable def o57 (P : Params) : Obj := tO [.type "object"] 0
noncomputable def o58 (P : Params) : Obj := ⟨.type "builtin_function_or_method", none, .fields #[.builtin "type.__prepare__", .type "type"], #[]⟩
noncomputable def o59 (P : Params) : Obj := dO [kE P "__module__" 251 (.str "rectpack.geometry" 194), kE P "__qualname__" 253 (.str "Rectangle" 252), kE P "__firstlineno__" 255 (.int 16 254), kE P "__init__" 267 (.ref 71), kE P "bottom" 275 (.ref 79), kE P "top" 283 (.ref 87), kE P "left" 291 (.ref 95), kE P "right" 299 (.ref 103), kE P "corner_top_l" 307 (.ref 111), kE P "corner_top_r" 315 (.ref 119), kE P "corner_bot_r" 323 (.ref 127), kE P "corner_bot_l" 331 (.ref 135), kE P "__lt__" 339 (.ref 142), kE P "__eq__" 347 (.ref 149), kE P "__iter__" 354 (.ref 156), kE P "area" 361 (.ref 163), kE P "move" 370 (.ref 170), kE P "contains" 378 (.ref 177), kE P "intersects" 387 (.ref 185), kE P "intersection" 396 (.ref 193), kE P "join" 408 (.ref 200), kE P "__static_attributes__" 414 (.ref 201)] 22
noncomputable def o60 (P : Params) : Obj := tO [] 0
noncomputable def o61 (P : Params) : Obj := ⟨.none, none, .fields #[.int 18 0, .int 4 0, .ref 70, .int 27 0, .int 4 0, .ref 77, .int 31 0, .int 4 0, .ref 85, .int 35 0, .int 4 0, .ref 93, .int 39 0, .int 4 0, .ref 101, .int 43 0, .int 4 0, .ref 109, .int 47 0, .int 4 0, .ref 117, .int 51 0, .int 4 0, .ref 125, .int 55 0, .int 4 0, .ref 133, .int 58 0, .int 4 0, .ref 141, .int 61 0, .int 4 0, .ref 148, .int 66 0, .int 4 0, .ref 155, .int 72 0, .int 4 0, .ref 162, .int 75 0, .int 4 0, .ref 169, .int 78 0, .int 4 0, .ref 176, .int 81 0, .int 4 0, .ref 184, .int 89 0, .int 4 0, .ref 192, .int 92 0, .int 4 0, .ref 199], #[]⟩
noncomputable def o62 (P : Params) : Obj := ⟨.type "code", none, .fields #[.str "Rectangle" 246, .str "Rectangle" 247, .str "/claim/cut.py" 248, .int 16 0, .int 0 0, .int 0 0, .int 0 0, .int 0 0, .ref 60, .bool false, .int 181 0, .ref 61, .none, .none, .none, .none, .int 249 0, .int 16 0, .str "/claim/cut.py" 250], #[]⟩
noncomputable def o63 (P : Params) : Obj := ⟨.type "frame", none, .plain, #[(some (.ref 62)), (some (.ref 3)), (some (.ref 59)), none, (some (.str "rectpack.geometry" 194)), none, (some (.ref 0))]⟩
noncomputable def o64 (P : Params) : Obj := tO [.none] 0
noncomputable def o65 (P : Params) : Obj := tO [] 0
noncomputable def o66 (P : Params) : Obj := ⟨.none, none, .fields #[], #[]⟩
noncomputable def o67 (P : Params) : Obj := tO [.str "self" 259, .str "x" 260, .str "y" 261, .str "width" 262, .str "height" 263, .str "rid" 264] 0
noncomputable def o68 (P : Params) : Obj := tO [] 0
noncomputable def o69 (P : Params) : Obj := fO .none (inAt 3 0) "Rectangle.__init__" 0 [] .none .none .none .none none .none .none 0
noncomputable def o70 (P : Params) : Obj := ⟨.type "code", none, .fields #[.str "__init__" 256, .str "Rectangle.__init__" 257, .str "/claim/cut.py" 258, .int 18 0, .int 6 0, .int 0 0, .int 0 0, .int 3 0, .ref 65, .bool true, .int 181 0, .ref 66, .none, .ref 67, .ref 68, .ref 69, .int 265 0, .int 18 0, .str "/claim/cut.py" 266], #[]⟩
noncomputable def o71 (P : Params) : Obj := fO (.type "function") (inAt 3 0) "Rectangle.__init__" 3 [] (.ref 64) .none .none (.str "rectpack.geometry" 194) none (.ref 70) .none 0
noncomputable def o72 (P : Params) : Obj := tO [] 0
noncomputable def o73 (P : Params) : Obj := ⟨.none, none, .fields #[], #[]⟩
noncomputable def o74 (P : Params) : Obj := tO [.str "self" 271] 0
noncomputable def o75 (P : Params) : Obj := tO [] 0
noncomputable def o76 (P : Params) : Obj := fO .none (inAt 3 1) "Rectangle.bottom" 0 [] .none .none .none .none none .none .none 0
noncomputable def o77 (P : Params) : Obj := ⟨.type "code", none, .fields #[.str "bottom" 268, .str "Rectangle.bottom" 269, .str "/claim/cut.py" 270, .int 26 0, .int 1 0, .int 0 0, .int 0 0, .int 3 0, .ref 72, .bool true, .int 181 0, .ref 73, .none, .ref 74, .ref 75, .ref 76, .int 272 0, .int 26 0, .str "/claim/cut.py" 273], #[]⟩
noncomputable def o78 (P : Params) : Obj := fO (.type "function") (inAt 3 1) "Rectangle.bottom" 3 [] .none .none .none (.str "rectpack.geometry" 194) none (.ref 77) .none 0
noncomputable def o79 (P : Params) : Obj := ⟨.type "property", none, .fields #[.ref 78, .none, .none, .none, .str "bottom" 275, .bool false], #[]⟩
noncomputable def o80 (P : Params) : Obj := tO [] 0
noncomputable def o81 (P : Params) : Obj := ⟨.none, none, .fields #[], #[]⟩
noncomputable def o82 (P : Params) : Obj := tO [.str "self" 279] 0
noncomputable def o83 (P : Params) : Obj := tO [] 0
noncomputable def o84 (P : Params) : Obj := fO .none (inAt 3 2) "Rectangle.top" 0 [] .none .none .none .none none .none .none 0
noncomputable def o85 (P : Params) : Obj := ⟨.type "code", none, .fields #[.str "top" 276, .str "Rectangle.top" 277, .str "/claim/cut.py" 278, .int 30 0, .int 1 0, .int 0 0, .int 0 0, .int 3 0, .ref 80, .bool true, .int 181 0, .ref 81, .none, .ref 82, .ref 83, .ref 84, .int 280 0, .int 30 0, .str "/claim/cut.py" 281], #[]⟩
noncomputable def o86 (P : Params) : Obj := fO (.type "function") (inAt 3 2) "Rectangle.top" 3 [] .none .none .none (.str "rectpack.geometry" 194) none (.ref 85) .none 0
noncomputable def o87 (P : Params) : Obj := ⟨.type "property", none, .fields #[.ref 86, .none, .none, .none, .str "top" 283, .bool false], #[]⟩
noncomputable def o88 (P : Params) : Obj := tO [] 0
noncomputable def o89 (P : Params) : Obj := ⟨.none, none, .fields #[], #[]⟩
noncomputable def o90 (P : Params) : Obj := tO [.str "self" 287] 0
noncomputable def o91 (P : Params) : Obj := tO [] 0
noncomputable def o92 (P : Params) : Obj := fO .none (inAt 3 3) "Rectangle.left" 0 [] .none .none .none .none none .none .none 0
noncomputable def o93 (P : Params) : Obj := ⟨.type "code", none, .fields #[.str "left" 284, .str "Rectangle.left" 285, .str "/claim/cut.py" 286, .int 34 0, .int 1 0, .int 0 0, .int 0 0, .int 3 0, .ref 88, .bool true, .int 181 0, .ref 89, .none, .ref 90, .ref 91, .ref 92, .int 288 0, .int 34 0, .str "/claim/cut.py" 289], #[]⟩
noncomputable def o94 (P : Params) : Obj := fO (.type "function") (inAt 3 3) "Rectangle.left" 3 [] .none .none .none (.str "rectpack.geometry" 194) none (.ref 93) .none 0
noncomputable def o95 (P : Params) : Obj := ⟨.type "property", none, .fields #[.ref 94, .none, .none, .none, .str "left" 291, .bool false], #[]⟩
noncomputable def o96 (P : Params) : Obj := tO [] 0
noncomputable def o97 (P : Params) : Obj := ⟨.none, none, .fields #[], #[]⟩
noncomputable def o98 (P : Params) : Obj := tO [.str "self" 295] 0
noncomputable def o99 (P : Params) : Obj := tO [] 0
noncomputable def o100 (P : Params) : Obj := fO .none (inAt 3 4) "Rectangle.right" 0 [] .none .none .none .none none .none .none 0
noncomputable def o101 (P : Params) : Obj := ⟨.type "code", none, .fields #[.str "right" 292, .str "Rectangle.right" 293, .str "/claim/cut.py" 294, .int 38 0, .int 1 0, .int 0 0, .int 0 0, .int 3 0, .ref 96, .bool true, .int 181 0, .ref 97, .none, .ref 98, .ref 99, .ref 100, .int 296 0, .int 38 0, .str "/claim/cut.py" 297], #[]⟩
noncomputable def o102 (P : Params) : Obj := fO (.type "function") (inAt 3 4) "Rectangle.right" 3 [] .none .none .none (.str "rectpack.geometry" 194) none (.ref 101) .none 0
noncomputable def o103 (P : Params) : Obj := ⟨.type "property", none, .fields #[.ref 102, .none, .none, .none, .str "right" 299, .bool false], #[]⟩
noncomputable def o104 (P : Params) : Obj := tO [] 0
noncomputable def o105 (P : Params) : Obj := ⟨.none, none, .fields #[], #[]⟩
noncomputable def o106 (P : Params) : Obj := tO [.str "self" 303] 0
noncomputable def o107 (P : Params) : Obj := tO [] 0
noncomputable def o108 (P : Params) : Obj := fO .none (inAt 3 5) "Rectangle.corner_top_l" 0 [] .none .none .none .none none .none .none 0
noncomputable def o109 (P : Params) : Obj := ⟨.type "code", none, .fields #[.str "corner_top_l" 300, .str "Rectangle.corner_top_l" 301, .str "/claim/cut.py" 302, .int 42 0, .int 1 0, .int 0 0, .int 0 0, .int 3 0, .ref 104, .bool true, .int 181 0, .ref 105, .none, .ref 106, .ref 107, .ref 108, .int 304 0, .int 42 0, .str "/claim/cut.py" 305], #[]⟩
noncomputable def o110 (P : Params) : Obj := fO (.type "function") (inAt 3 5) "Rectangle.corner_top_l" 3 [] .none .none .none (.str "rectpack.geometry" 194) none (.ref 109) .none 0
noncomputable def o111 (P : Params) : Obj := ⟨.type "property", none, .fields #[.ref 110, .none, .none, .none, .str "corner_top_l" 307, .bool false], #[]⟩
noncomputable def o112 (P : Params) : Obj := tO [] 0
noncomputable def o113 (P : Params) : Obj := ⟨.none, none, .fields #[], #[]⟩
noncomputable def o114 (P : Params) : Obj := tO [.str "self" 311] 0
noncomputable def o115 (P : Params) : Obj := tO [] 0
noncomputable def o116 (P : Params) : Obj := fO .none (inAt 3 6) "Rectangle.corner_top_r" 0 [] .none .none .none .none none .none .none 0
noncomputable def o117 (P : Params) : Obj := ⟨.type "code", none, .fields #[.str "corner_top_r" 308, .str "Rectangle.corner_top_r" 309, .str "/claim/cut.py" 310, .int 46 0, .int 1 0, .int 0 0, .int 0 0, .int 3 0, .ref 112, .bool true, .int 181 0, .ref 113, .none, .ref 114, .ref 115, .ref 116, .int 312 0, .int 46 0, .str "/claim/cut.py" 313], #[]⟩
noncomputable def o118 (P : Params) : Obj := fO (.type "function") (inAt 3 6) "Rectangle.corner_top_r" 3 [] .none .none .none (.str "rectpack.geometry" 194) none (.ref 117) .none 0
noncomputable def o119 (P : Params) : Obj := ⟨.type "property", none, .fields #[.ref 118, .none, .none, .none, .str "corner_top_r" 315, .bool false], #[]⟩
noncomputable def o120 (P : Params) : Obj := tO [] 0
noncomputable def o121 (P : Params) : Obj := ⟨.none, none, .fields #[], #[]⟩
noncomputable def o122 (P : Params) : Obj := tO [.str "self" 319] 0
noncomputable def o123 (P : Params) : Obj := tO [] 0
noncomputable def o124 (P : Params) : Obj := fO .none (inAt 3 7) "Rectangle.corner_bot_r" 0 [] .none .none .none .none none .none .none 0
noncomputable def o125 (P : Params) : Obj := ⟨.type "code", none, .fields #[.str "corner_bot_r" 316, .str "Rectangle.corner_bot_r" 317, .str "/claim/cut.py" 318, .int 50 0, .int 1 0, .int 0 0, .int 0 0, .int 3 0, .ref 120, .bool true, .int 181 0, .ref 121, .none, .ref 122, .ref 123, .ref 124, .int 320 0, .int 50 0, .str "/claim/cut.py" 321], #[]⟩
noncomputable def o126 (P : Params) : Obj := fO (.type "function") (inAt 3 7) "Rectangle.corner_bot_r" 3 [] .none .none .none (.str "rectpack.geometry" 194) none (.ref 125) .none 0
noncomputable def o127 (P : Params) : Obj := ⟨.type "property", none, .fields #[.ref 126, .none, .none, .none, .str "corner_bot_r" 323, .bool false], #[]⟩
noncomputable def o128 (P : Params) : Obj := tO [] 0
noncomputable def o129 (P : Params) : Obj := ⟨.none, none, .fields #[], #[]⟩
noncomputable def o130 (P : Params) : Obj := tO [.str "self" 327] 0
noncomputable def o131 (P : Params) : Obj := tO [] 0
noncomputable def o132 (P : Params) : Obj := fO .none (inAt 3 8) "Rectangle.corner_bot_l" 0 [] .none .none .none .none none .none .none 0
noncomputable def o133 (P : Params) : Obj := ⟨.type "code", none, .fields #[.str "corner_bot_l" 324, .str "Rectangle.corner_bot_l" 325, .str "/claim/cut.py" 326, .int 54 0, .int 1 0, .int 0 0, .int 0 0, .int 3 0, .ref 128, .bool true, .int 181 0, .ref 129, .none, .ref 130, .ref 131, .ref 132, .int 328 0, .int 54 0, .str "/claim/cut.py" 329], #[]⟩
noncomputable def o134 (P : Params) : Obj := fO (.type "function") (inAt 3 8) "Rectangle.corner_bot_l" 3 [] .none .none .none (.str "rectpack.geometry" 194) none (.ref 133) .none 0
noncomputable def o135 (P : Params) : Obj := ⟨.type "property", none, .fields #[.ref 134, .none, .none, .none, .str "corner_bot_l" 331, .bool false], #[]⟩
noncomputable def o136 (P : Params) : Obj := tO [] 0
noncomputable def o137 (P : Params) : Obj := ⟨.none, none, .fields #[], #[]⟩
noncomputable def o138 (P : Params) : Obj := tO [.str "self" 335, .str "other" 336] 0
noncomputable def o139 (P : Params) : Obj := tO [] 0
noncomputable def o140 (P : Params) : Obj := fO .none (inAt 3 9) "Rectangle.__lt__" 0 [] .none .none .none .none none .none .none 0
noncomputable def o141 (P : Params) : Obj := ⟨.type "code", none, .fields #[.str "__lt__" 332, .str "Rectangle.__lt__" 333, .str "/claim/cut.py" 334, .int 58 0, .int 2 0, .int 0 0, .int 0 0, .int 3 0, .ref 136, .bool true, .int 181 0, .ref 137, .none, .ref 138, .ref 139, .ref 140, .int 337 0, .int 58 0, .str "/claim/cut.py" 338], #[]⟩
noncomputable def o142 (P : Params) : Obj := fO (.type "function") (inAt 3 9) "Rectangle.__lt__" 3 [] .none .none .none (.str "rectpack.geometry" 194) none (.ref 141) .none 0
noncomputable def o143 (P : Params) : Obj := tO [] 0
noncomputable def o144 (P : Params) : Obj := ⟨.none, none, .fields #[], #[]⟩
noncomputable def o145 (P : Params) : Obj := tO [.str "self" 343, .str "other" 344] 0
noncomputable def o146 (P : Params) : Obj := tO [] 0
noncomputable def o147 (P : Params) : Obj := fO .none (inAt 3 10) "Rectangle.__eq__" 0 [] .none .none .none .none none .none .none 0
noncomputable def o148 (P : Params) : Obj := ⟨.type "code", none, .fields #[.str "__eq__" 340, .str "Rectangle.__eq__" 341, .str "/claim/cut.py" 342, .int 61 0, .int 2 0, .int 0 0, .int 0 0, .int 3 0, .ref 143, .bool true, .int 181 0, .ref 144, .none, .ref 145, .ref 146, .ref 147, .int 345 0, .int 61 0, .str "/claim/cut.py" 346], #[]⟩
noncomputable def o149 (P : Params) : Obj := fO (.type "function") (inAt 3 10) "Rectangle.__eq__" 3 [] .none .none .none (.str "rectpack.geometry" 194) none (.ref 148) .none 0
noncomputable def o150 (P : Params) : Obj := tO [] 0
noncomputable def o151 (P : Params) : Obj := ⟨.none, none, .fields #[], #[]⟩
noncomputable def o152 (P : Params) : Obj := tO [.str "self" 351] 0
noncomputable def o153 (P : Params) : Obj := tO [] 0
noncomputable def o154 (P : Params) : Obj := fO .none (inAt 3 11) "Rectangle.__iter__" 0 [] .none .none .none .none none .none .none 0
noncomputable def o155 (P : Params) : Obj := ⟨.type "code", none, .fields #[.str "__iter__" 348, .str "Rectangle.__iter__" 349, .str "/claim/cut.py" 350, .int 66 0, .int 1 0, .int 0 0, .int 0 0, .int 35 0, .ref 150, .bool true, .int 181 0, .ref 151, .none, .ref 152, .ref 153, .ref 154, .int 352 0, .int 66 0, .str "/claim/cut.py" 353], #[]⟩
noncomputable def o156 (P : Params) : Obj := fO (.type "function") (inAt 3 11) "Rectangle.__iter__" 3 [] .none .none .none (.str "rectpack.geometry" 194) none (.ref 155) .none 0
noncomputable def o157 (P : Params) : Obj := tO [] 0
noncomputable def o158 (P : Params) : Obj := ⟨.none, none, .fields #[], #[]⟩
noncomputable def o159 (P : Params) : Obj := tO [.str "self" 358] 0
noncomputable def o160 (P : Params) : Obj := tO [] 0
noncomputable def o161 (P : Params) : Obj := fO .none (inAt 3 12) "Rectangle.area" 0 [] .none .none .none .none none .none .none 0
noncomputable def o162 (P : Params) : Obj := ⟨.type "code", none, .fields #[.str "area" 355, .str "Rectangle.area" 356, .str "/claim/cut.py" 357, .int 72 0, .int 1 0, .int 0 0, .int 0 0, .int 3 0, .ref 157, .bool true, .int 181 0, .ref 158, .none, .ref 159, .ref 160, .ref 161, .int 359 0, .int 72 0, .str "/claim/cut.py" 360], #[]⟩
noncomputable def o163 (P : Params) : Obj := fO (.type "function") (inAt 3 12) "Rectangle.area" 3 [] .none .none .none (.str "rectpack.geometry" 194) none (.ref 162) .none 0
noncomputable def o164 (P : Params) : Obj := tO [] 0
noncomputable def o165 (P : Params) : Obj := ⟨.none, none, .fields #[], #[]⟩
noncomputable def o166 (P : Params) : Obj := tO [.str "self" 365, .str "x" 366, .str "y" 367] 0
noncomputable def o167 (P : Params) : Obj := tO [] 0
noncomputable def o168 (P : Params) : Obj := fO .none (inAt 3 13) "Rectangle.move" 0 [] .none .none .none .none none .none .none 0
noncomputable def o169 (P : Params) : Obj := ⟨.type "code", none, .fields #[.str "move" 362, .str "Rectangle.move" 363, .str "/claim/cut.py" 364, .int 75 0, .int 3 0, .int 0 0, .int 0 0, .int 3 0, .ref 164, .bool true, .int 181 0, .ref 165, .none, .ref 166, .ref 167, .ref 168, .int 368 0, .int 75 0, .str "/claim/cut.py" 369], #[]⟩
noncomputable def o170 (P : Params) : Obj := fO (.type "function") (inAt 3 13) "Rectangle.move" 3 [] .none .none .none (.str "rectpack.geometry" 194) none (.ref 169) .none 0
noncomputable def o171 (P : Params) : Obj := tO [] 0
noncomputable def o172 (P : Params) : Obj := ⟨.none, none, .fields #[], #[]⟩
noncomputable def o173 (P : Params) : Obj := tO [.str "self" 374, .str "rect" 375] 0
noncomputable def o174 (P : Params) : Obj := tO [] 0
noncomputable def o175 (P : Params) : Obj := fO .none (inAt 3 14) "Rectangle.contains" 0 [] .none .none .none .none none .none .none 0
noncomputable def o176 (P : Params) : Obj := ⟨.type "code", none, .fields #[.str "contains" 371, .str "Rectangle.contains" 372, .str "/claim/cut.py" 373, .int 78 0, .int 2 0, .int 0 0, .int 0 0, .int 3 0, .ref 171, .bool true, .int 181 0, .ref 172, .none, .ref 173, .ref 174, .ref 175, .int 376 0, .int 78 0, .str "/claim/cut.py" 377], #[]⟩
noncomputable def o177 (P : Params) : Obj := fO (.type "function") (inAt 3 14) "Rectangle.contains" 3 [] .none .none .none (.str "rectpack.geometry" 194) none (.ref 176) .none 0
noncomputable def o178 (P : Params) : Obj := tO [.bool false] 0
noncomputable def o179 (P : Params) : Obj := tO [] 0
noncomputable def o180 (P : Params) : Obj := ⟨.none, none, .fields #[], #[]⟩
noncomputable def o181 (P : Params) : Obj := tO [.str "self" 382, .str "rect" 383, .str "edges" 384] 0
noncomputable def o182 (P : Params) : Obj := tO [] 0
noncomputable def o183 (P : Params) : Obj := fO .none (inAt 3 15) "Rectangle.intersects" 0 [] .none .none .none .none none .none .none 0
noncomputable def o184 (P : Params) : Obj := ⟨.type "code", none, .fields #[.str "intersects" 379, .str "Rectangle.intersects" 380, .str "/claim/cut.py" 381, .int 81 0, .int 3 0, .int 0 0, .int 0 0, .int 3 0, .ref 179, .bool true, .int 181 0, .ref 180, .none, .ref 181, .ref 182, .ref 183, .int 385 0, .int 81 0, .str "/claim/cut.py" 386], #[]⟩
noncomputable def o185 (P : Params) : Obj := fO (.type "function") (inAt 3 15) "Rectangle.intersects" 3 [] (.ref 178) .none .none (.str "rectpack.geometry" 194) none (.ref 184) .none 0
noncomputable def o186 (P : Params) : Obj := tO [.bool false] 0
noncomputable def o187 (P : Params) : Obj := tO [] 0
noncomputable def o188 (P : Params) : Obj := ⟨.none, none, .fields #[], #[]⟩
noncomputable def o189 (P : Params) : Obj := tO [.str "self" 391, .str "rect" 392, .str "edges" 393] 0
noncomputable def o190 (P : Params) : Obj := tO [] 0
noncomputable def o191 (P : Params) : Obj := fO .none (inAt 3 16) "Rectangle.intersection" 0 [] .none .none .none .none none .none .none 0
noncomputable def o192 (P : Params) : Obj := ⟨.type "code", none, .fields #[.str "intersection" 388, .str "Rectangle.intersection" 389, .str "/claim/cut.py" 390, .int 89 0, .int 3 0, .int 0 0, .int 0 0, .int 3 0, .ref 187, .bool true, .int 181 0, .ref 188, .none, .ref 189, .ref 190, .ref 191, .int 394 0, .int 89 0, .str "/claim/cut.py" 395], #[]⟩
noncomputable def o193 (P : Params) : Obj := fO (.type "function") (inAt 3 16) "Rectangle.intersection" 3 [] (.ref 186) .none .none (.str "rectpack.geometry" 194) none (.ref 192) .none 0
noncomputable def o194 (P : Params) : Obj := tO [] 0
noncomputable def o195 (P : Params) : Obj := ⟨.none, none, .fields #[], #[]⟩
noncomputable def o196 (P : Params) : Obj := tO [.str "self" 400, .str "other" 401, .str "y_min" 402, .str "y_max" 403, .str "x_min" 404, .str "x_max" 405] 0
noncomputable def o197 (P : Params) : Obj := tO [] 0
noncomputable def o198 (P : Params) : Obj := fO .none (inAt 3 17) "Rectangle.join" 0 [] .none .none .none .none none .none .none 0
noncomputable def o199 (P : Params) : Obj := ⟨.type "code", none, .fields #[.str "join" 397, .str "Rectangle.join" 398, .str "/claim/cut.py" 399, .int 92 0, .int 2 0, .int 0 0, .int 0 0, .int 3 0, .ref 194, .bool true, .int 181 0, .ref 195, .none, .ref 196, .ref 197, .ref 198, .int 406 0, .int 92 0, .str "/claim/cut.py" 407], #[]⟩
noncomputable def o200 (P : Params) : Obj := fO (.type "function") (inAt 3 17) "Rectangle.join" 3 [] .none .none .none (.str "rectpack.geometry" 194) none (.ref 199) .none 0
noncomputable def o201 (P : Params) : Obj := tO [.str "height" 409, .str "rid" 410, .str "width" 411, .str "x" 412, .str "y" 413] 0
noncomputable def o202 (P : Params) : Obj := dO [kE P "__module__" 251 (.str "rectpack.geometry" 194), kE P "__firstlineno__" 255 (.int 16 254), kE P "__init__" 267 (.ref 71), kE P "bottom" 275 (.ref 79), kE P "top" 283 (.ref 87), kE P "left" 291 (.ref 95), kE P "right" 299 (.ref 103), kE P "corner_top_l" 307 (.ref 111), kE P "corner_top_r" 315 (.ref 119), kE P "corner_bot_r" 323 (.ref 127), kE P "corner_bot_l" 331 (.ref 135), kE P "__lt__" 339 (.ref 142), kE P "__eq__" 347 (.ref 149), kE P "__iter__" 354 (.ref 156), kE P "area" 361 (.ref 163), kE P "move" 370 (.ref 170), kE P "contains" 378 (.ref 177), kE P "intersects" 387 (.ref 185), kE P "intersection" 396 (.ref 193), kE P "join" 408 (.ref 200), kE P "__static_attributes__" 414 (.ref 201), kE P "__dict__" 416 (.ref 204), kE P "__weakref__" 418 (.ref 205), kE P "__doc__" 419 .none, kE P "__hash__" 420 .none] 5
noncomputable def o203 (P : Params) : Obj := ⟨.type "type", none, .cls { name := "Rectangle", bases := [.type "object"], mro := [.ref 203, .type "object"], ns := 202, qualname := "Rectangle", hasDict := true, slotNames := [], subclasses := [], abstract := false, collection := none, hasDel := false }, #[(some (.ref 57)), none, (some (.str "Rectangle" 244)), (some (.str "Rectangle" 252)), (some (.builtin "object.__new__")), (some (.bool true))]⟩
noncomputable def o204 (P : Params) : Obj := ⟨.type "getset_descriptor", none, .fields #[.str "__dict__" 415, .ref 203, .builtin "function.__dict__", .builtin "function.__dict__#set"], #[]⟩
noncomputable def o205 (P : Params) : Obj := ⟨.type "getset_descriptor", none, .fields #[.str "__weakref__" 417, .ref 203, .builtin "ExceptionGroup.__weakref__", .none], #[]⟩
noncomputable def o206 (P : Params) : Obj := ⟨.type "super", none, .fields #[.ref 203, .ref 203, .ref 203], #[]⟩
noncomputable def o207 (P : Params) : Obj := ⟨.type "builtin_function_or_method", none, .fields #[.builtin "object.__init_subclass__", .ref 203], #[]⟩
noncomputable def o3v1 (P : Params) : Obj := dO [kE P "__name__" 165 (.str "rectpack.guillotine" 553), kE P "__doc__" 166 .none, kE P "__package__" 167 .none, kE P "__loader__" 168 (.builtin "__main__.__loader__#opaque"), kE P "__spec__" 169 .none, kE P "__annotations__" 170 (.ref 6), kE P "__builtins__" 171 (.ref 4), kE P "__file__" 173 (.str "/claim/cut.py" 172), kE P "__cached__" 174 .none, kE P "_wall" 193 (.ref 21), kE P "Point" 243 (.ref 52), kE P "Rectangle" 422 (.ref 203), kE P "PackingAlgorithm" 552 (.ref 304), kE P "Guillotine" 683 (.ref 391), kE P "GuillotineBaf" 709 (.ref 410)] 15
noncomputable def o12v2 (P : Params) : Obj := ⟨.none, none, .fields #[.int 1 0, .int 0 0, .ref 20, .int 5 0, .int 0 0, .ref 27, .int 16 0, .int 0 0, .ref 62, .int 117 0, .int 0 0, .ref 213, .int 165 0, .int 0 0, .ref 315, .int 236 0, .int 0 0, .ref 399], #[]⟩
noncomputable def o208 (P : Params) : Obj := tO [.type "object"] 0
noncomputable def o209 (P : Params) : Obj := ⟨.type "builtin_function_or_method", none, .fields #[.builtin "type.__prepare__", .type "type"], #[]⟩
noncomputable def o210 (P : Params) : Obj := dO [kE P "__module__" 432 (.str "rectpack.pack_algo" 423), kE P "__qualname__" 434 (.str "PackingAlgorithm" 433), kE P "__firstlineno__" 436 (.int 117 435), kE P "__init__" 449 (.ref 222), kE P "__len__" 456 (.ref 229), kE P "__iter__" 464 (.ref 236), kE P "_fits_surface" 473 (.ref 243), kE P "__getitem__" 481 (.ref 250), kE P "used_area" 488 (.ref 257), kE P "fitness" 498 (.ref 265), kE P "add_rect" 508 (.ref 273), kE P "rect_list" 517 (.ref 280), kE P "validate_packing" 524 (.ref 287), kE P "is_empty" 531 (.ref 294), kE P "reset" 538 (.ref 301), kE P "__static_attributes__" 545 (.ref 302)] 16
noncomputable def o211 (P : Params) : Obj := tO [] 0
noncomputable def o212 (P : Params) : Obj := ⟨.none, none, .fields #[.int 119 0, .int 4 0, .ref 221, .int 128 0, .int 4 0, .ref 228, .int 131 0, .int 4 0, .ref 235, .int 135 0, .int 4 0, .ref 242, .int 138 0, .int 4 0, .ref 249, .int 141 0, .int 4 0, .ref 256, .int 144 0, .int 4 0, .ref 264, .int 147 0, .int 4 0, .ref 272, .int 150 0, .int 4 0, .ref 279, .int 156 0, .int 4 0, .ref 286, .int 159 0, .int 4 0, .ref 293, .int 162 0, .int 4 0, .ref 300], #[]⟩
noncomputable def o213 (P : Params) : Obj := ⟨.type "code", none, .fields #[.str "PackingAlgorithm" 427, .str "PackingAlgorithm" 428, .str "/claim/cut.py" 429, .int 117 0, .int 0 0, .int 0 0, .int 0 0, .int 0 0, .ref 211, .bool false, .int 181 0, .ref 212, .none, .none, .none, .none, .int 430 0, .int 117 0, .str "/claim/cut.py" 431], #[]⟩
noncomputable def o214 (P : Params) : Obj := ⟨.type "frame", none, .plain, #[(some (.ref 213)), (some (.ref 3)), (some (.ref 210)), none, (some (.str "rectpack.pack_algo" 423)), none, (some (.ref 0))]⟩
noncomputable def o215 (P : Params) : Obj := tO [.bool true, .none] 0
noncomputable def o216 (P : Params) : Obj := tO [] 0
noncomputable def o217 (P : Params) : Obj := ⟨.none, none, .fields #[], #[]⟩
noncomputable def o218 (P : Params) : Obj := tO [.str "self" 440, .str "width" 441, .str "height" 442, .str "rot" 443, .str "bid" 444, .str "args" 445, .str "kwargs" 446] 0
noncomputable def o219 (P : Params) : Obj := tO [] 0
noncomputable def o220 (P : Params) : Obj := fO .none (inAt 5 0) "PackingAlgorithm.__init__" 0 [] .none .none .none .none none .none .none 0
noncomputable def o221 (P : Params) : Obj := ⟨.type "code", none, .fields #[.str "__init__" 437, .str "PackingAlgorithm.__init__" 438, .str "/claim/cut.py" 439, .int 119 0, .int 5 0, .int 0 0, .int 0 0, .int 15 0, .ref 216, .bool true, .int 181 0, .ref 217, .none, .ref 218, .ref 219, .ref 220, .int 447 0, .int 119 0, .str "/claim/cut.py" 448], #[]⟩
noncomputable def o222 (P : Params) : Obj := fO (.type "function") (inAt 5 0) "PackingAlgorithm.__init__" 3 [] (.ref 215) .none .none (.str "rectpack.pack_algo" 423) none (.ref 221) .none 0
noncomputable def o223 (P : Params) : Obj := tO [] 0
noncomputable def o224 (P : Params) : Obj := ⟨.none, none, .fields #[], #[]⟩
noncomputable def o225 (P : Params) : Obj := tO [.str "self" 453] 0
noncomputable def o226 (P : Params) : Obj := tO [] 0
noncomputable def o227 (P : Params) : Obj := fO .none (inAt 5 1) "PackingAlgorithm.__len__" 0 [] .none .none .none .none none .none .none 0
noncomputable def o228 (P : Params) : Obj := ⟨.type "code", none, .fields #[.str "__len__" 450, .str "PackingAlgorithm.__len__" 451, .str "/claim/cut.py" 452, .int 128 0, .int 1 0, .int 0 0, .int 0 0, .int 3 0, .ref 223, .bool true, .int 181 0, .ref 224, .none, .ref 225, .ref 226, .ref 227, .int 454 0, .int 128 0, .str "/claim/cut.py" 455], #[]⟩
noncomputable def o229 (P : Params) : Obj := fO (.type "function") (inAt 5 1) "PackingAlgorithm.__len__" 3 [] .none .none .none (.str "rectpack.pack_algo" 423) none (.ref 228) .none 0
noncomputable def o230 (P : Params) : Obj := tO [] 0
noncomputable def o231 (P : Params) : Obj := ⟨.none, none, .fields #[], #[]⟩
noncomputable def o232 (P : Params) : Obj := tO [.str "self" 460, .str "r" 461] 0
noncomputable def o233 (P : Params) : Obj := tO [] 0
noncomputable def o234 (P : Params) : Obj := fO .none (inAt 5 2) "PackingAlgorithm.__iter__" 0 [] .none .none .none .none none .none .none 0
noncomputable def o235 (P : Params) : Obj := ⟨.type "code", none, .fields #[.str "__iter__" 457, .str "PackingAlgorithm.__iter__" 458, .str "/claim/cut.py" 459, .int 131 0, .int 1 0, .int 0 0, .int 0 0, .int 35 0, .ref 230, .bool true, .int 181 0, .ref 231, .none, .ref 232, .ref 233, .ref 234, .int 462 0, .int 131 0, .str "/claim/cut.py" 463], #[]⟩
noncomputable def o236 (P : Params) : Obj := fO (.type "function") (inAt 5 2) "PackingAlgorithm.__iter__" 3 [] .none .none .none (.str "rectpack.pack_algo" 423) none (.ref 235) .none 0
noncomputable def o237 (P : Params) : Obj := tO [] 0
noncomputable def o238 (P : Params) : Obj := ⟨.none, none, .fields #[], #[]⟩
noncomputable def o239 (P : Params) : Obj := tO [.str "self" 468, .str "width" 469, .str "height" 470] 0
noncomputable def o240 (P : Params) : Obj := tO [] 0
noncomputable def o241 (P : Params) : Obj := fO .none (inAt 5 3) "PackingAlgorithm._fits_surface" 0 [] .none .none .none .none none .none .none 0
noncomputable def o242 (P : Params) : Obj := ⟨.type "code", none, .fields #[.str "_fits_surface" 465, .str "PackingAlgorithm._fits_surface" 466, .str "/claim/cut.py" 467, .int 135 0, .int 3 0, .int 0 0, .int 0 0, .int 3 0, .ref 237, .bool true, .int 181 0, .ref 238, .none, .ref 239, .ref 240, .ref 241, .int 471 0, .int 135 0, .str "/claim/cut.py" 472], #[]⟩
noncomputable def o243 (P : Params) : Obj := fO (.type "function") (inAt 5 3) "PackingAlgorithm._fits_surface" 3 [] .none .none .none (.str "rectpack.pack_algo" 423) none (.ref 242) .none 0
noncomputable def o244 (P : Params) : Obj := tO [] 0
noncomputable def o245 (P : Params) : Obj := ⟨.none, none, .fields #[], #[]⟩
noncomputable def o246 (P : Params) : Obj := tO [.str "self" 477, .str "key" 478] 0
noncomputable def o247 (P : Params) : Obj := tO [] 0
noncomputable def o248 (P : Params) : Obj := fO .none (inAt 5 4) "PackingAlgorithm.__getitem__" 0 [] .none .none .none .none none .none .none 0
noncomputable def o249 (P : Params) : Obj := ⟨.type "code", none, .fields #[.str "__getitem__" 474, .str "PackingAlgorithm.__getitem__" 475, .str "/claim/cut.py" 476, .int 138 0, .int 2 0, .int 0 0, .int 0 0, .int 3 0, .ref 244, .bool true, .int 181 0, .ref 245, .none, .ref 246, .ref 247, .ref 248, .int 479 0, .int 138 0, .str "/claim/cut.py" 480], #[]⟩
noncomputable def o250 (P : Params) : Obj := fO (.type "function") (inAt 5 4) "PackingAlgorithm.__getitem__" 3 [] .none .none .none (.str "rectpack.pack_algo" 423) none (.ref 249) .none 0
noncomputable def o251 (P : Params) : Obj := tO [] 0
noncomputable def o252 (P : Params) : Obj := ⟨.none, none, .fields #[], #[]⟩
noncomputable def o253 (P : Params) : Obj := tO [.str "self" 485] 0
noncomputable def o254 (P : Params) : Obj := tO [] 0
noncomputable def o255 (P : Params) : Obj := fO .none (inAt 5 5) "PackingAlgorithm.used_area" 0 [] .none .none .none .none none .none .none 0
noncomputable def o256 (P : Params) : Obj := ⟨.type "code", none, .fields #[.str "used_area" 482, .str "PackingAlgorithm.used_area" 483, .str "/claim/cut.py" 484, .int 141 0, .int 1 0, .int 0 0, .int 0 0, .int 3 0, .ref 251, .bool true, .int 181 0, .ref 252, .none, .ref 253, .ref 254, .ref 255, .int 486 0, .int 141 0, .str "/claim/cut.py" 487], #[]⟩
noncomputable def o257 (P : Params) : Obj := fO (.type "function") (inAt 5 5) "PackingAlgorithm.used_area" 3 [] .none .none .none (.str "rectpack.pack_algo" 423) none (.ref 256) .none 0
noncomputable def o258 (P : Params) : Obj := tO [.bool false] 0
noncomputable def o259 (P : Params) : Obj := tO [] 0
noncomputable def o260 (P : Params) : Obj := ⟨.none, none, .fields #[], #[]⟩
noncomputable def o261 (P : Params) : Obj := tO [.str "self" 492, .str "width" 493, .str "height" 494, .str "rot" 495] 0
noncomputable def o262 (P : Params) : Obj := tO [] 0
noncomputable def o263 (P : Params) : Obj := fO .none (inAt 5 6) "PackingAlgorithm.fitness" 0 [] .none .none .none .none none .none .none 0
noncomputable def o264 (P : Params) : Obj := ⟨.type "code", none, .fields #[.str "fitness" 489, .str "PackingAlgorithm.fitness" 490, .str "/claim/cut.py" 491, .int 144 0, .int 4 0, .int 0 0, .int 0 0, .int 3 0, .ref 259, .bool true, .int 181 0, .ref 260, .none, .ref 261, .ref 262, .ref 263, .int 496 0, .int 144 0, .str "/claim/cut.py" 497], #[]⟩
noncomputable def o265 (P : Params) : Obj := fO (.type "function") (inAt 5 6) "PackingAlgorithm.fitness" 3 [] (.ref 258) .none .none (.str "rectpack.pack_algo" 423) none (.ref 264) .none 0
noncomputable def o266 (P : Params) : Obj := tO [.none] 0
noncomputable def o267 (P : Params) : Obj := tO [] 0
noncomputable def o268 (P : Params) : Obj := ⟨.none, none, .fields #[], #[]⟩
noncomputable def o269 (P : Params) : Obj := tO [.str "self" 502, .str "width" 503, .str "height" 504, .str "rid" 505] 0
noncomputable def o270 (P : Params) : Obj := tO [] 0
noncomputable def o271 (P : Params) : Obj := fO .none (inAt 5 7) "PackingAlgorithm.add_rect" 0 [] .none .none .none .none none .none .none 0
noncomputable def o272 (P : Params) : Obj := ⟨.type "code", none, .fields #[.str "add_rect" 499, .str "PackingAlgorithm.add_rect" 500, .str "/claim/cut.py" 501, .int 147 0, .int 4 0, .int 0 0, .int 0 0, .int 3 0, .ref 267, .bool true, .int 181 0, .ref 268, .none, .ref 269, .ref 270, .ref 271, .int 506 0, .int 147 0, .str "/claim/cut.py" 507], #[]⟩
noncomputable def o273 (P : Params) : Obj := fO (.type "function") (inAt 5 7) "PackingAlgorithm.add_rect" 3 [] (.ref 266) .none .none (.str "rectpack.pack_algo" 423) none (.ref 272) .none 0
noncomputable def o274 (P : Params) : Obj := tO [] 0
noncomputable def o275 (P : Params) : Obj := ⟨.none, none, .fields #[], #[]⟩
noncomputable def o276 (P : Params) : Obj := tO [.str "self" 512, .str "rectangle_list" 513, .str "r" 514] 0
noncomputable def o277 (P : Params) : Obj := tO [] 0
noncomputable def o278 (P : Params) : Obj := fO .none (inAt 5 8) "PackingAlgorithm.rect_list" 0 [] .none .none .none .none none .none .none 0
noncomputable def o279 (P : Params) : Obj := ⟨.type "code", none, .fields #[.str "rect_list" 509, .str "PackingAlgorithm.rect_list" 510, .str "/claim/cut.py" 511, .int 150 0, .int 1 0, .int 0 0, .int 0 0, .int 3 0, .ref 274, .bool true, .int 181 0, .ref 275, .none, .ref 276, .ref 277, .ref 278, .int 515 0, .int 150 0, .str "/claim/cut.py" 516], #[]⟩
noncomputable def o280 (P : Params) : Obj := fO (.type "function") (inAt 5 8) "PackingAlgorithm.rect_list" 3 [] .none .none .none (.str "rectpack.pack_algo" 423) none (.ref 279) .none 0
noncomputable def o281 (P : Params) : Obj := tO [] 0
noncomputable def o282 (P : Params) : Obj := ⟨.none, none, .fields #[], #[]⟩
noncomputable def o283 (P : Params) : Obj := tO [.str "self" 521] 0
noncomputable def o284 (P : Params) : Obj := tO [] 0
noncomputable def o285 (P : Params) : Obj := fO .none (inAt 5 9) "PackingAlgorithm.validate_packing" 0 [] .none .none .none .none none .none .none 0
noncomputable def o286 (P : Params) : Obj := ⟨.type "code", none, .fields #[.str "validate_packing" 518, .str "PackingAlgorithm.validate_packing" 519, .str "/claim/cut.py" 520, .int 156 0, .int 1 0, .int 0 0, .int 0 0, .int 3 0, .ref 281, .bool true, .int 181 0, .ref 282, .none, .ref 283, .ref 284, .ref 285, .int 522 0, .int 156 0, .str "/claim/cut.py" 523], #[]⟩
noncomputable def o287 (P : Params) : Obj := fO (.type "function") (inAt 5 9) "PackingAlgorithm.validate_packing" 3 [] .none .none .none (.str "rectpack.pack_algo" 423) none (.ref 286) .none 0
noncomputable def o288 (P : Params) : Obj := tO [] 0
noncomputable def o289 (P : Params) : Obj := ⟨.none, none, .fields #[], #[]⟩
noncomputable def o290 (P : Params) : Obj := tO [.str "self" 528] 0
noncomputable def o291 (P : Params) : Obj := tO [] 0
noncomputable def o292 (P : Params) : Obj := fO .none (inAt 5 10) "PackingAlgorithm.is_empty" 0 [] .none .none .none .none none .none .none 0
noncomputable def o293 (P : Params) : Obj := ⟨.type "code", none, .fields #[.str "is_empty" 525, .str "PackingAlgorithm.is_empty" 526, .str "/claim/cut.py" 527, .int 159 0, .int 1 0, .int 0 0, .int 0 0, .int 3 0, .ref 288, .bool true, .int 181 0, .ref 289, .none, .ref 290, .ref 291, .ref 292, .int 529 0, .int 159 0, .str "/claim/cut.py" 530], #[]⟩
noncomputable def o294 (P : Params) : Obj := fO (.type "function") (inAt 5 10) "PackingAlgorithm.is_empty" 3 [] .none .none .none (.str "rectpack.pack_algo" 423) none (.ref 293) .none 0
noncomputable def o295 (P : Params) : Obj := tO [] 0
noncomputable def o296 (P : Params) : Obj := ⟨.none, none, .fields #[], #[]⟩
noncomputable def o297 (P : Params) : Obj := tO [.str "self" 535] 0
noncomputable def o298 (P : Params) : Obj := tO [] 0
noncomputable def o299 (P : Params) : Obj := fO .none (inAt 5 11) "PackingAlgorithm.reset" 0 [] .none .none .none .none none .none .none 0
noncomputable def o300 (P : Params) : Obj := ⟨.type "code", none, .fields #[.str "reset" 532, .str "PackingAlgorithm.reset" 533, .str "/claim/cut.py" 534, .int 162 0, .int 1 0, .int 0 0, .int 0 0, .int 3 0, .ref 295, .bool true, .int 181 0, .ref 296, .none, .ref 297, .ref 298, .ref 299, .int 536 0, .int 162 0, .str "/claim/cut.py" 537], #[]⟩
noncomputable def o301 (P : Params) : Obj := fO (.type "function") (inAt 5 11) "PackingAlgorithm.reset" 3 [] .none .none .none (.str "rectpack.pack_algo" 423) none (.ref 300) .none 0
noncomputable def o302 (P : Params) : Obj := tO [.str "_surface" 539, .str "bid" 540, .str "height" 541, .str "rectangles" 542, .str "rot" 543, .str "width" 544] 0
noncomputable def o303 (P : Params) : Obj := dO [kE P "__module__" 432 (.str "rectpack.pack_algo" 423), kE P "__firstlineno__" 436 (.int 117 435), kE P "__init__" 449 (.ref 222), kE P "__len__" 456 (.ref 229), kE P "__iter__" 464 (.ref 236), kE P "_fits_surface" 473 (.ref 243), kE P "__getitem__" 481 (.ref 250), kE P "used_area" 488 (.ref 257), kE P "fitness" 498 (.ref 265), kE P "add_rect" 508 (.ref 273), kE P "rect_list" 517 (.ref 280), kE P "validate_packing" 524 (.ref 287), kE P "is_empty" 531 (.ref 294), kE P "reset" 538 (.ref 301), kE P "__static_attributes__" 545 (.ref 302), kE P "__dict__" 547 (.ref 305), kE P "__weakref__" 549 (.ref 306), kE P "__doc__" 550 .none] 4
noncomputable def o304 (P : Params) : Obj := ⟨.type "type", none, .cls { name := "PackingAlgorithm", bases := [.type "object"], mro := [.ref 304, .type "object"], ns := 303, qualname := "PackingAlgorithm", hasDict := true, slotNames := [], subclasses := [.ref 391], abstract := false, collection := none, hasDel := false }, #[(some (.ref 208)), none, (some (.str "PackingAlgorithm" 425)), (some (.str "PackingAlgorithm" 433)), (some (.builtin "object.__new__")), (some (.bool true))]⟩
noncomputable def o305 (P : Params) : Obj := ⟨.type "getset_descriptor", none, .fields #[.str "__dict__" 546, .ref 304, .builtin "function.__dict__", .builtin "function.__dict__#set"], #[]⟩
noncomputable def o306 (P : Params) : Obj := ⟨.type "getset_descriptor", none, .fields #[.str "__weakref__" 548, .ref 304, .builtin "ExceptionGroup.__weakref__", .none], #[]⟩
noncomputable def o307 (P : Params) : Obj := ⟨.type "super", none, .fields #[.ref 304, .ref 304, .ref 304], #[]⟩
noncomputable def o308 (P : Params) : Obj := ⟨.type "builtin_function_or_method", none, .fields #[.builtin "object.__init_subclass__", .ref 304], #[]⟩
noncomputable def o309 (P : Params) : Obj := tO [.ref 304] 0
noncomputable def o310 (P : Params) : Obj := ⟨.type "builtin_function_or_method", none, .fields #[.builtin "type.__prepare__", .type "type"], #[]⟩
noncomputable def o311 (P : Params) : Obj := dO [kE P "__module__" 562 (.str "rectpack.guillotine" 553), kE P "__qualname__" 564 (.str "Guillotine" 563), kE P "__firstlineno__" 566 (.int 165 565), kE P "__init__" 580 (.ref 325), kE P "_add_section" 586 (.ref 330), kE P "_split_horizontal" 596 (.ref 337), kE P "_split_vertical" 606 (.ref 344), kE P "_split" 616 (.ref 351), kE P "_section_fitness" 626 (.ref 358), kE P "_select_fittest_section" 644 (.ref 365), kE P "add_rect" 657 (.ref 373), kE P "fitness" 668 (.ref 380), kE P "reset" 676 (.ref 388), kE P "__static_attributes__" 679 (.ref 389), kE P "__classcell__" 680 (.ref 312)] 15
noncomputable def o312 (P : Params) : Obj := ⟨.type "cell", none, .cell (some (.ref 391)), #[]⟩
noncomputable def o313 (P : Params) : Obj := tO [] 0
noncomputable def o314 (P : Params) : Obj := ⟨.none, none, .fields #[.int 167 0, .int 4 0, .ref 324, .int 171 0, .int 4 0, .ref 329, .int 179 0, .int 4 0, .ref 336, .int 185 0, .int 4 0, .ref 343, .int 191 0, .int 4 0, .ref 350, .int 194 0, .int 4 0, .ref 357, .int 197 0, .int 4 0, .ref 364, .int 209 0, .int 4 0, .ref 372, .int 222 0, .int 4 0, .ref 379, .int 232 0, .int 4 0, .ref 387], #[]⟩
noncomputable def o315 (P : Params) : Obj := ⟨.type "code", none, .fields #[.str "Guillotine" 557, .str "Guillotine" 558, .str "/claim/cut.py" 559, .int 165 0, .int 0 0, .int 0 0, .int 0 0, .int 0 0, .ref 313, .bool false, .int 181 0, .ref 314, .none, .none, .none, .none, .int 560 0, .int 165 0, .str "/claim/cut.py" 561], #[]⟩
noncomputable def o316 (P : Params) : Obj := ⟨.type "frame", none, .plain, #[(some (.ref 315)), (some (.ref 3)), (some (.ref 311)), none, (some (.str "rectpack.guillotine" 553)), none, (some (.ref 0))]⟩
noncomputable def o317 (P : Params) : Obj := tO [.bool true, .bool true] 0
noncomputable def o318 (P : Params) : Obj := tO [.ref 312] 0
noncomputable def o319 (P : Params) : Obj := tO [.str "__class__" 570] 0
noncomputable def o320 (P : Params) : Obj := ⟨.none, none, .fields #[], #[]⟩
noncomputable def o321 (P : Params) : Obj := tO [.str "self" 571, .str "width" 572, .str "height" 573, .str "rot" 574, .str "merge" 575, .str "args" 576, .str "kwargs" 577] 0
noncomputable def o322 (P : Params) : Obj := tO [] 0
noncomputable def o323 (P : Params) : Obj := fO .none (inAt 7 0) "Guillotine.__init__" 0 [] .none .none .none .none none .none .none 0
noncomputable def o324 (P : Params) : Obj := ⟨.type "code", none, .fields #[.str "__init__" 567, .str "Guillotine.__init__" 568, .str "/claim/cut.py" 569, .int 167 0, .int 5 0, .int 0 0, .int 0 0, .int 15 0, .ref 319, .bool true, .int 181 0, .ref 320, .none, .ref 321, .ref 322, .ref 323, .int 578 0, .int 167 0, .str "/claim/cut.py" 579], #[]⟩
noncomputable def o325 (P : Params) : Obj := fO (.type "function") (inAt 7 0) "Guillotine.__init__" 3 [("__class__", 312)] (.ref 317) .none .none (.str "rectpack.guillotine" 553) none (.ref 324) (.ref 318) 0
noncomputable def o326 (P : Params) : Obj := tO [] 0
noncomputable def o327 (P : Params) : Obj := ⟨.none, none, .fields #[], #[]⟩
noncomputable def o328 (P : Params) : Obj := fO .none (inAt 7 1) "Guillotine._add_section" 0 [] .none .none .none .none none .none .none 0
noncomputable def o329 (P : Params) : Obj := ⟨.type "code", none, .fields #[.str "_add_section" 581, .str "Guillotine._add_section" 582, .str "/claim/cut.py" 583, .int 171 0, .int 2 0, .int 0 0, .int 0 0, .int 3 0, .ref 326, .bool true, .int 181 0, .ref 327, .none, .none, .none, .ref 328, .int 584 0, .int 171 0, .str "/claim/cut.py" 585], #[]⟩
noncomputable def o330 (P : Params) : Obj := fO (.type "function") (inAt 7 1) "Guillotine._add_section" 3 [] .none .none .none (.str "rectpack.guillotine" 553) none (.ref 329) .none 0
noncomputable def o331 (P : Params) : Obj := tO [] 0
noncomputable def o332 (P : Params) : Obj := ⟨.none, none, .fields #[], #[]⟩
noncomputable def o333 (P : Params) : Obj := tO [.str "self" 590, .str "section" 591, .str "width" 592, .str "height" 593] 0
noncomputable def o334 (P : Params) : Obj := tO [] 0
noncomputable def o335 (P : Params) : Obj := fO .none (inAt 7 2) "Guillotine._split_horizontal" 0 [] .none .none .none .none none .none .none 0
noncomputable def o336 (P : Params) : Obj := ⟨.type "code", none, .fields #[.str "_split_horizontal" 587, .str "Guillotine._split_horizontal" 588, .str "/claim/cut.py" 589, .int 179 0, .int 4 0, .int 0 0, .int 0 0, .int 3 0, .ref 331, .bool true, .int 181 0, .ref 332, .none, .ref 333, .ref 334, .ref 335, .int 594 0, .int 179 0, .str "/claim/cut.py" 595], #[]⟩
noncomputable def o337 (P : Params) : Obj := fO (.type "function") (inAt 7 2) "Guillotine._split_horizontal" 3 [] .none .none .none (.str "rectpack.guillotine" 553) none (.ref 336) .none 0
noncomputable def o338 (P : Params) : Obj := tO [] 0
noncomputable def o339 (P : Params) : Obj := ⟨.none, none, .fields #[], #[]⟩
noncomputable def o340 (P : Params) : Obj := tO [.str "self" 600, .str "section" 601, .str "width" 602, .str "height" 603] 0
noncomputable def o341 (P : Params) : Obj := tO [] 0
noncomputable def o342 (P : Params) : Obj := fO .none (inAt 7 3) "Guillotine._split_vertical" 0 [] .none .none .none .none none .none .none 0
noncomputable def o343 (P : Params) : Obj := ⟨.type "code", none, .fields #[.str "_split_vertical" 597, .str "Guillotine._split_vertical" 598, .str "/claim/cut.py" 599, .int 185 0, .int 4 0, .int 0 0, .int 0 0, .int 3 0, .ref 338, .bool true, .int 181 0, .ref 339, .none, .ref 340, .ref 341, .ref 342, .int 604 0, .int 185 0, .str "/claim/cut.py" 605], #[]⟩
noncomputable def o344 (P : Params) : Obj := fO (.type "function") (inAt 7 3) "Guillotine._split_vertical" 3 [] .none .none .none (.str "rectpack.guillotine" 553) none (.ref 343) .none 0
noncomputable def o345 (P : Params) : Obj := tO [] 0
noncomputable def o346 (P : Params) : Obj := ⟨.none, none, .fields #[], #[]⟩
noncomputable def o347 (P : Params) : Obj := tO [.str "self" 610, .str "section" 611, .str "width" 612, .str "height" 613] 0
noncomputable def o348 (P : Params) : Obj := tO [] 0
noncomputable def o349 (P : Params) : Obj := fO .none (inAt 7 4) "Guillotine._split" 0 [] .none .none .none .none none .none .none 0
noncomputable def o350 (P : Params) : Obj := ⟨.type "code", none, .fields #[.str "_split" 607, .str "Guillotine._split" 608, .str "/claim/cut.py" 609, .int 191 0, .int 4 0, .int 0 0, .int 0 0, .int 3 0, .ref 345, .bool true, .int 181 0, .ref 346, .none, .ref 347, .ref 348, .ref 349, .int 614 0, .int 191 0, .str "/claim/cut.py" 615], #[]⟩
noncomputable def o351 (P : Params) : Obj := fO (.type "function") (inAt 7 4) "Guillotine._split" 3 [] .none .none .none (.str "rectpack.guillotine" 553) none (.ref 350) .none 0
noncomputable def o352 (P : Params) : Obj := tO [] 0
noncomputable def o353 (P : Params) : Obj := ⟨.none, none, .fields #[], #[]⟩
noncomputable def o354 (P : Params) : Obj := tO [.str "self" 620, .str "section" 621, .str "width" 622, .str "height" 623] 0
noncomputable def o355 (P : Params) : Obj := tO [] 0
noncomputable def o356 (P : Params) : Obj := fO .none (inAt 7 5) "Guillotine._section_fitness" 0 [] .none .none .none .none none .none .none 0
noncomputable def o357 (P : Params) : Obj := ⟨.type "code", none, .fields #[.str "_section_fitness" 617, .str "Guillotine._section_fitness" 618, .str "/claim/cut.py" 619, .int 194 0, .int 4 0, .int 0 0, .int 0 0, .int 3 0, .ref 352, .bool true, .int 181 0, .ref 353, .none, .ref 354, .ref 355, .ref 356, .int 624 0, .int 194 0, .str "/claim/cut.py" 625], #[]⟩
noncomputable def o358 (P : Params) : Obj := fO (.type "function") (inAt 7 5) "Guillotine._section_fitness" 3 [] .none .none .none (.str "rectpack.guillotine" 553) none (.ref 357) .none 0
noncomputable def o359 (P : Params) : Obj := tO [] 0
noncomputable def o360 (P : Params) : Obj := ⟨.none, none, .fields #[], #[]⟩
noncomputable def o361 (P : Params) : Obj := tO [.str "self" 630, .str "w" 631, .str "h" 632, .str "fitn" 633, .str "fitr" 634, .str "fit" 635, .str "_" 636, .str "sec" 637, .str "rot" 638] 0
noncomputable def o362 (P : Params) : Obj := tO [.str "self" 639, .str "w" 640, .str "h" 641] 0
noncomputable def o363 (P : Params) : Obj := fO .none (inAt 7 6) "Guillotine._select_fittest_section" 0 [] .none .none .none .none none .none .none 0
noncomputable def o364 (P : Params) : Obj := ⟨.type "code", none, .fields #[.str "_select_fittest_section" 627, .str "Guillotine._select_fittest_section" 628, .str "/claim/cut.py" 629, .int 197 0, .int 3 0, .int 0 0, .int 0 0, .int 3 0, .ref 359, .bool true, .int 181 0, .ref 360, .none, .ref 361, .ref 362, .ref 363, .int 642 0, .int 197 0, .str "/claim/cut.py" 643], #[]⟩
noncomputable def o365 (P : Params) : Obj := fO (.type "function") (inAt 7 6) "Guillotine._select_fittest_section" 3 [] .none .none .none (.str "rectpack.guillotine" 553) none (.ref 364) .none 0
noncomputable def o366 (P : Params) : Obj := tO [.none] 0
noncomputable def o367 (P : Params) : Obj := tO [] 0
noncomputable def o368 (P : Params) : Obj := ⟨.none, none, .fields #[], #[]⟩
noncomputable def o369 (P : Params) : Obj := tO [.str "self" 648, .str "width" 649, .str "height" 650, .str "rid" 651, .str "section" 652, .str "rotated" 653, .str "rect" 654] 0
noncomputable def o370 (P : Params) : Obj := tO [] 0
noncomputable def o371 (P : Params) : Obj := fO .none (inAt 7 7) "Guillotine.add_rect" 0 [] .none .none .none .none none .none .none 0
noncomputable def o372 (P : Params) : Obj := ⟨.type "code", none, .fields #[.str "add_rect" 645, .str "Guillotine.add_rect" 646, .str "/claim/cut.py" 647, .int 209 0, .int 4 0, .int 0 0, .int 0 0, .int 3 0, .ref 367, .bool true, .int 181 0, .ref 368, .none, .ref 369, .ref 370, .ref 371, .int 655 0, .int 209 0, .str "/claim/cut.py" 656], #[]⟩
noncomputable def o373 (P : Params) : Obj := fO (.type "function") (inAt 7 7) "Guillotine.add_rect" 3 [] (.ref 366) .none .none (.str "rectpack.guillotine" 553) none (.ref 372) .none 0
noncomputable def o374 (P : Params) : Obj := tO [] 0
noncomputable def o375 (P : Params) : Obj := ⟨.none, none, .fields #[], #[]⟩
noncomputable def o376 (P : Params) : Obj := tO [.str "self" 661, .str "width" 662, .str "height" 663, .str "section" 664, .str "rotated" 665] 0
noncomputable def o377 (P : Params) : Obj := tO [] 0
noncomputable def o378 (P : Params) : Obj := fO .none (inAt 7 8) "Guillotine.fitness" 0 [] .none .none .none .none none .none .none 0
noncomputable def o379 (P : Params) : Obj := ⟨.type "code", none, .fields #[.str "fitness" 658, .str "Guillotine.fitness" 659, .str "/claim/cut.py" 660, .int 222 0, .int 3 0, .int 0 0, .int 0 0, .int 3 0, .ref 374, .bool true, .int 181 0, .ref 375, .none, .ref 376, .ref 377, .ref 378, .int 666 0, .int 222 0, .str "/claim/cut.py" 667], #[]⟩
noncomputable def o380 (P : Params) : Obj := fO (.type "function") (inAt 7 8) "Guillotine.fitness" 3 [] .none .none .none (.str "rectpack.guillotine" 553) none (.ref 379) .none 0
noncomputable def o381 (P : Params) : Obj := tO [.ref 312] 0
noncomputable def o382 (P : Params) : Obj := tO [.str "__class__" 672] 0
noncomputable def o383 (P : Params) : Obj := ⟨.none, none, .fields #[], #[]⟩
noncomputable def o384 (P : Params) : Obj := tO [.str "self" 673] 0
noncomputable def o385 (P : Params) : Obj := tO [] 0
noncomputable def o386 (P : Params) : Obj := fO .none (inAt 7 9) "Guillotine.reset" 0 [] .none .none .none .none none .none .none 0
noncomputable def o387 (P : Params) : Obj := ⟨.type "code", none, .fields #[.str "reset" 669, .str "Guillotine.reset" 670, .str "/claim/cut.py" 671, .int 232 0, .int 1 0, .int 0 0, .int 0 0, .int 3 0, .ref 382, .bool true, .int 181 0, .ref 383, .none, .ref 384, .ref 385, .ref 386, .int 674 0, .int 232 0, .str "/claim/cut.py" 675], #[]⟩
noncomputable def o388 (P : Params) : Obj := fO (.type "function") (inAt 7 9) "Guillotine.reset" 3 [("__class__", 312)] .none .none .none (.str "rectpack.guillotine" 553) none (.ref 387) (.ref 381) 0
noncomputable def o389 (P : Params) : Obj := tO [.str "_merge" 677, .str "_sections" 678] 0
noncomputable def o390 (P : Params) : Obj := dO [kE P "__module__" 562 (.str "rectpack.guillotine" 553), kE P "__firstlineno__" 566 (.int 165 565), kE P "__init__" 580 (.ref 325), kE P "_add_section" 586 (.ref 330), kE P "_split_horizontal" 596 (.ref 337), kE P "_split_vertical" 606 (.ref 344), kE P "_split" 616 (.ref 351), kE P "_section_fitness" 626 (.ref 358), kE P "_select_fittest_section" 644 (.ref 365), kE P "add_rect" 657 (.ref 373), kE P "fitness" 668 (.ref 380), kE P "reset" 676 (.ref 388), kE P "__static_attributes__" 679 (.ref 389), kE P "__doc__" 681 .none] 3
noncomputable def o391 (P : Params) : Obj := ⟨.type "type", none, .cls { name := "Guillotine", bases := [.ref 304], mro := [.ref 391, .ref 304, .type "object"], ns := 390, qualname := "Guillotine", hasDict := true, slotNames := [], subclasses := [.ref 410], abstract := false, collection := none, hasDel := false }, #[(some (.ref 309)), none, (some (.str "Guillotine" 555)), (some (.str "Guillotine" 563)), (some (.builtin "object.__new__")), (some (.bool true))]⟩
noncomputable def o392 (P : Params) : Obj := ⟨.type "super", none, .fields #[.ref 391, .ref 391, .ref 391], #[]⟩
noncomputable def o393 (P : Params) : Obj := ⟨.type "builtin_function_or_method", none, .fields #[.builtin "object.__init_subclass__", .ref 391], #[]⟩
noncomputable def o394 (P : Params) : Obj := tO [.ref 391] 0
noncomputable def o395 (P : Params) : Obj := ⟨.type "builtin_function_or_method", none, .fields #[.builtin "type.__prepare__", .type "type"], #[]⟩
noncomputable def o396 (P : Params) : Obj := dO [kE P "__module__" 691 (.str "rectpack.guillotine" 553), kE P "__qualname__" 693 (.str "GuillotineBaf" 692), kE P "__firstlineno__" 695 (.int 236 694), kE P "_section_fitness" 705 (.ref 407), kE P "__static_attributes__" 706 (.ref 408)] 5
noncomputable def o397 (P : Params) : Obj := tO [] 0
noncomputable def o398 (P : Params) : Obj := ⟨.none, none, .fields #[.int 238 0, .int 4 0, .ref 406], #[]⟩
noncomputable def o399 (P : Params) : Obj := ⟨.type "code", none, .fields #[.str "GuillotineBaf" 686, .str "GuillotineBaf" 687, .str "/claim/cut.py" 688, .int 236 0, .int 0 0, .int 0 0, .int 0 0, .int 0 0, .ref 397, .bool false, .int 181 0, .ref 398, .none, .none, .none, .none, .int 689 0, .int 236 0, .str "/claim/cut.py" 690], #[]⟩
noncomputable def o400 (P : Params) : Obj := ⟨.type "frame", none, .plain, #[(some (.ref 399)), (some (.ref 3)), (some (.ref 396)), none, (some (.str "rectpack.guillotine" 553)), none, (some (.ref 0))]⟩
noncomputable def o401 (P : Params) : Obj := tO [] 0
noncomputable def o402 (P : Params) : Obj := ⟨.none, none, .fields #[], #[]⟩
noncomputable def o403 (P : Params) : Obj := tO [.str "self" 699, .str "section" 700, .str "width" 701, .str "height" 702] 0
noncomputable def o404 (P : Params) : Obj := tO [] 0
noncomputable def o405 (P : Params) : Obj := fO .none (inAt 8 0) "GuillotineBaf._section_fitness" 0 [] .none .none .none .none none .none .none 0
noncomputable def o406 (P : Params) : Obj := ⟨.type "code", none, .fields #[.str "_section_fitness" 696, .str "GuillotineBaf._section_fitness" 697, .str "/claim/cut.py" 698, .int 238 0, .int 4 0, .int 0 0, .int 0 0, .int 3 0, .ref 401, .bool true, .int 181 0, .ref 402, .none, .ref 403, .ref 404, .ref 405, .int 703 0, .int 238 0, .str "/claim/cut.py" 704], #[]⟩
noncomputable def o407 (P : Params) : Obj := fO (.type "function") (inAt 8 0) "GuillotineBaf._section_fitness" 3 [] .none .none .none (.str "rectpack.guillotine" 553) none (.ref 406) .none 0
noncomputable def o408 (P : Params) : Obj := tO [] 0
noncomputable def o409 (P : Params) : Obj := dO [kE P "__module__" 691 (.str "rectpack.guillotine" 553), kE P "__firstlineno__" 695 (.int 236 694), kE P "_section_fitness" 705 (.ref 407), kE P "__static_attributes__" 706 (.ref 408), kE P "__doc__" 707 .none] 2
noncomputable def o410 (P : Params) : Obj := ⟨.type "type", none, .cls { name := "GuillotineBaf", bases := [.ref 391], mro := [.ref 410, .ref 391, .ref 304, .type "object"], ns := 409, qualname := "GuillotineBaf", hasDict := true, slotNames := [], subclasses := [], abstract := false, collection := none, hasDel := false }, #[(some (.ref 394)), none, (some (.str "GuillotineBaf" 684)), (some (.str "GuillotineBaf" 692)), (some (.builtin "object.__new__")), (some (.bool true))]⟩
noncomputable def o411 (P : Params) : Obj := ⟨.type "super", none, .fields #[.ref 410, .ref 410, .ref 410], #[]⟩
noncomputable def o412 (P : Params) : Obj := ⟨.type "builtin_function_or_method", none, .fields #[.builtin "object.__init_subclass__", .ref 410], #[]⟩
noncomputable def o3v2 (P : Params) : Obj := dO [kE P "__name__" 165 (.str "rectpack.guillotine" 553), kE P "__doc__" 166 .none, kE P "__package__" 167 .none, kE P "__loader__" 168 (.builtin "__main__.__loader__#opaque"), kE P "__spec__" 169 .none, kE P "__annotations__" 170 (.ref 6), kE P "__builtins__" 171 (.ref 4), kE P "__file__" 173 (.str "/claim/cut.py" 172), kE P "__cached__" 174 .none, kE P "_wall" 193 (.ref 21), kE P "Point" 243 (.ref 52), kE P "Rectangle" 422 (.ref 203), kE P "PackingAlgorithm" 552 (.ref 304), kE P "Guillotine" 683 (.ref 391), kE P "GuillotineBaf" 709 (.ref 410), kE P "GuillotineBlsf" 735 (.ref 429), kE P "GuillotineBssf" 761 (.ref 448), kE P "GuillotineBssfSas" 787 (.ref 467), kE P "GuillotineBssfLas" 813 (.ref 486), kE P "GuillotineBssfSlas" 839 (.ref 505), kE P "GuillotineBssfLlas" 865 (.ref 524)] 21
noncomputable def o12v3 (P : Params) : Obj := ⟨.none, none, .fields #[.int 1 0, .int 0 0, .ref 20, .int 5 0, .int 0 0, .ref 27, .int 16 0, .int 0 0, .ref 62, .int 117 0, .int 0 0, .ref 213, .int 165 0, .int 0 0, .ref 315, .int 236 0, .int 0 0, .ref 399, .int 242 0, .int 0 0, .ref 418, .int 248 0, .int 0 0, .ref 437, .int 254 0, .int 0 0, .ref 456, .int 261 0, .int 0 0, .ref 475, .int 268 0, .int 0 0, .ref 494, .int 275 0, .int 0 0, .ref 513], #[]⟩
noncomputable def o391v1 (P : Params) : Obj := ⟨.type "type", none, .cls { name := "Guillotine", bases := [.ref 304], mro := [.ref 391, .ref 304, .type "object"], ns := 390, qualname := "Guillotine", hasDict := true, slotNames := [], subclasses := [.ref 410, .ref 429, .ref 448], abstract := false, collection := none, hasDel := false }, #[(some (.ref 309)), none, (some (.str "Guillotine" 555)), (some (.str "Guillotine" 563)), (some (.builtin "object.__new__")), (some (.bool true))]⟩
noncomputable def o413 (P : Params) : Obj := tO [.ref 391] 0
noncomputable def o414 (P : Params) : Obj := ⟨.type "builtin_function_or_method", none, .fields #[.builtin "type.__prepare__", .type "type"], #[]⟩
noncomputable def o415 (P : Params) : Obj := dO [kE P "__module__" 717 (.str "rectpack.guillotine" 553), kE P "__qualname__" 719 (.str "GuillotineBlsf" 718), kE P "__firstlineno__" 721 (.int 242 720), kE P "_section_fitness" 731 (.ref 426), kE P "__static_attributes__" 732 (.ref 427)] 5
noncomputable def o416 (P : Params) : Obj := tO [] 0
noncomputable def o417 (P : Params) : Obj := ⟨.none, none, .fields #[.int 244 0, .int 4 0, .ref 425], #[]⟩
noncomputable def o418 (P : Params) : Obj := ⟨.type "code", none, .fields #[.str "GuillotineBlsf" 712, .str "GuillotineBlsf" 713, .str "/claim/cut.py" 714, .int 242 0, .int 0 0, .int 0 0, .int 0 0, .int 0 0, .ref 416, .bool false, .int 181 0, .ref 417, .none, .none, .none, .none, .int 715 0, .int 242 0, .str "/claim/cut.py" 716], #[]⟩
noncomputable def o419 (P : Params) : Obj := ⟨.type "frame", none, .plain, #[(some (.ref 418)), (some (.ref 3)), (some (.ref 415)), none, (some (.str "rectpack.guillotine" 553)), none, (some (.ref 0))]⟩
noncomputable def o420 (P : Params) : Obj := tO [] 0
noncomputable def o421 (P : Params) : Obj := ⟨.none, none, .fields #[], #[]⟩
noncomputable def o422 (P : Params) : Obj := tO [.str "self" 725, .str "section" 726, .str "width" 727, .str "height" 728] 0
noncomputable def o423 (P : Params) : Obj := tO [] 0
noncomputable def o424 (P : Params) : Obj := fO .none (inAt 9 0) "GuillotineBlsf._section_fitness" 0 [] .none .none .none .none none .none .none 0
noncomputable def o425 (P : Params) : Obj := ⟨.type "code", none, .fields #[.str "_section_fitness" 722, .str "GuillotineBlsf._section_fitness" 723, .str "/claim/cut.py" 724, .int 244 0, .int 4 0, .int 0 0, .int 0 0, .int 3 0, .ref 420, .bool true, .int 181 0, .ref 421, .none, .ref 422, .ref 423, .ref 424, .int 729 0, .int 244 0, .str "/claim/cut.py" 730], #[]⟩
noncomputable def o426 (P : Params) : Obj := fO (.type "function") (inAt 9 0) "GuillotineBlsf._section_fitness" 3 [] .none .none .none (.str "rectpack.guillotine" 553) none (.ref 425) .none 0
noncomputable def o427 (P : Params) : Obj := tO [] 0
noncomputable def o428 (P : Params) : Obj := dO [kE P "__module__" 717 (.str "rectpack.guillotine" 553), kE P "__firstlineno__" 721 (.int 242 720), kE P "_section_fitness" 731 (.ref 426), kE P "__static_attributes__" 732 (.ref 427), kE P "__doc__" 733 .none] 2
noncomputable def o429 (P : Params) : Obj := ⟨.type "type", none, .cls { name := "GuillotineBlsf", bases := [.ref 391], mro := [.ref 429, .ref 391, .ref 304, .type "object"], ns := 428, qualname := "GuillotineBlsf", hasDict := true, slotNames := [], subclasses := [], abstract := false, collection := none, hasDel := false }, #[(some (.ref 413)), none, (some (.str "GuillotineBlsf" 710)), (some (.str "GuillotineBlsf" 718)), (some (.builtin "object.__new__")), (some (.bool true))]⟩
noncomputable def o430 (P : Params) : Obj := ⟨.type "super", none, .fields #[.ref 429, .ref 429, .ref 429], #[]⟩
noncomputable def o431 (P : Params) : Obj := ⟨.type "builtin_function_or_method", none, .fields #[.builtin "object.__init_subclass__", .ref 429], #[]⟩
noncomputable def o432 (P : Params) : Obj := tO [.ref 391] 0
noncomputable def o433 (P : Params) : Obj := ⟨.type "builtin_function_or_method", none, .fields #[.builtin "type.__prepare__", .type "type"], #[]⟩
noncomputable def o434 (P : Params) : Obj := dO [kE P "__module__" 743 (.str "rectpack.guillotine" 553), kE P "__qualname__" 745 (.str "GuillotineBssf" 744), kE P "__firstlineno__" 747 (.int 248 746), kE P "_section_fitness" 757 (.ref 445), kE P "__static_attributes__" 758 (.ref 446)] 5
noncomputable def o435 (P : Params) : Obj := tO [] 0
noncomputable def o436 (P : Params) : Obj := ⟨.none, none, .fields #[.int 250 0, .int 4 0, .ref 444], #[]⟩
noncomputable def o437 (P : Params) : Obj := ⟨.type "code", none, .fields #[.str "GuillotineBssf" 738, .str "GuillotineBssf" 739, .str "/claim/cut.py" 740, .int 248 0, .int 0 0, .int 0 0, .int 0 0, .int 0 0, .ref 435, .bool false, .int 181 0, .ref 436, .none, .none, .none, .none, .int 741 0, .int 248 0, .str "/claim/cut.py" 742], #[]⟩
noncomputable def o438 (P : Params) : Obj := ⟨.type "frame", none, .plain, #[(some (.ref 437)), (some (.ref 3)), (some (.ref 434)), none, (some (.str "rectpack.guillotine" 553)), none, (some (.ref 0))]⟩
noncomputable def o439 (P : Params) : Obj := tO [] 0
noncomputable def o440 (P : Params) : Obj := ⟨.none, none, .fields #[], #[]⟩
noncomputable def o441 (P : Params) : Obj := tO [.str "self" 751, .str "section" 752, .str "width" 753, .str "height" 754] 0
noncomputable def o442 (P : Params) : Obj := tO [] 0
noncomputable def o443 (P : Params) : Obj := fO .none (inAt 10 0) "GuillotineBssf._section_fitness" 0 [] .none .none .none .none none .none .none 0
noncomputable def o444 (P : Params) : Obj := ⟨.type "code", none, .fields #[.str "_section_fitness" 748, .str "GuillotineBssf._section_fitness" 749, .str "/claim/cut.py" 750, .int 250 0, .int 4 0, .int 0 0, .int 0 0, .int 3 0, .ref 439, .bool true, .int 181 0, .ref 440, .none, .ref 441, .ref 442, .ref 443, .int 755 0, .int 250 0, .str "/claim/cut.py" 756], #[]⟩
noncomputable def o445 (P : Params) : Obj := fO (.type "function") (inAt 10 0) "GuillotineBssf._section_fitness" 3 [] .none .none .none (.str "rectpack.guillotine" 553) none (.ref 444) .none 0
noncomputable def o446 (P : Params) : Obj := tO [] 0
noncomputable def o447 (P : Params) : Obj := dO [kE P "__module__" 743 (.str "rectpack.guillotine" 553), kE P "__firstlineno__" 747 (.int 248 746), kE P "_section_fitness" 757 (.ref 445), kE P "__static_attributes__" 758 (.ref 446), kE P "__doc__" 759 .none] 2
noncomputable def o448 (P : Params) : Obj := ⟨.type "type", none, .cls { name := "GuillotineBssf", bases := [.ref 391], mro := [.ref 448, .ref 391, .ref 304, .type "object"], ns := 447, qualname := "GuillotineBssf", hasDict := true, slotNames := [], subclasses := [.ref 467, .ref 486, .ref 505, .ref 524], abstract := false, collection := none, hasDel := false }, #[(some (.ref 432)), none, (some (.str "GuillotineBssf" 736)), (some (.str "GuillotineBssf" 744)), (some (.builtin "object.__new__")), (some (.bool true))]⟩
noncomputable def o449 (P : Params) : Obj := ⟨.type "super", none, .fields #[.ref 448, .ref 448, .ref 448], #[]⟩
noncomputable def o450 (P : Params) : Obj := ⟨.type "builtin_function_or_method", none, .fields #[.builtin "object.__init_subclass__", .ref 448], #[]⟩
noncomputable def o451 (P : Params) : Obj := tO [.ref 448] 0
noncomputable def o452 (P : Params) : Obj := ⟨.type "builtin_function_or_method", none, .fields #[.builtin "type.__prepare__", .type "type"], #[]⟩
noncomputable def o453 (P : Params) : Obj := dO [kE P "__module__" 769 (.str "rectpack.guillotine" 553), kE P "__qualname__" 771 (.str "GuillotineBssfSas" 770), kE P "__firstlineno__" 773 (.int 254 772), kE P "_split" 783 (.ref 464), kE P "__static_attributes__" 784 (.ref 465)] 5
noncomputable def o454 (P : Params) : Obj := tO [] 0
noncomputable def o455 (P : Params) : Obj := ⟨.none, none, .fields #[.int 256 0, .int 4 0, .ref 463], #[]⟩
noncomputable def o456 (P : Params) : Obj := ⟨.type "code", none, .fields #[.str "GuillotineBssfSas" 764, .str "GuillotineBssfSas" 765, .str "/claim/cut.py" 766, .int 254 0, .int 0 0, .int 0 0, .int 0 0, .int 0 0, .ref 454, .bool false, .int 181 0, .ref 455, .none, .none, .none, .none, .int 767 0, .int 254 0, .str "/claim/cut.py" 768], #[]⟩
noncomputable def o457 (P : Params) : Obj := ⟨.type "frame", none, .plain, #[(some (.ref 456)), (some (.ref 3)), (some (.ref 453)), none, (some (.str "rectpack.guillotine" 553)), none, (some (.ref 0))]⟩
noncomputable def o458 (P : Params) : Obj := tO [] 0
noncomputable def o459 (P : Params) : Obj := ⟨.none, none, .fields #[], #[]⟩
noncomputable def o460 (P : Params) : Obj := tO [.str "self" 777, .str "section" 778, .str "width" 779, .str "height" 780] 0
noncomputable def o461 (P : Params) : Obj := tO [] 0
noncomputable def o462 (P : Params) : Obj := fO .none (inAt 11 0) "GuillotineBssfSas._split" 0 [] .none .none .none .none none .none .none 0
noncomputable def o463 (P : Params) : Obj := ⟨.type "code", none, .fields #[.str "_split" 774, .str "GuillotineBssfSas._split" 775, .str "/claim/cut.py" 776, .int 256 0, .int 4 0, .int 0 0, .int 0 0, .int 3 0, .ref 458, .bool true, .int 181 0, .ref 459, .none, .ref 460, .ref 461, .ref 462, .int 781 0, .int 256 0, .str "/claim/cut.py" 782], #[]⟩
noncomputable def o464 (P : Params) : Obj := fO (.type "function") (inAt 11 0) "GuillotineBssfSas._split" 3 [] .none .none .none (.str "rectpack.guillotine" 553) none (.ref 463) .none 0
noncomputable def o465 (P : Params) : Obj := tO [] 0
noncomputable def o466 (P : Params) : Obj := dO [kE P "__module__" 769 (.str "rectpack.guillotine" 553), kE P "__firstlineno__" 773 (.int 254 772), kE P "_split" 783 (.ref 464), kE P "__static_attributes__" 784 (.ref 465), kE P "__doc__" 785 .none] 2
noncomputable def o467 (P : Params) : Obj := ⟨.type "type", none, .cls { name := "GuillotineBssfSas", bases := [.ref 448], mro := [.ref 467, .ref 448, .ref 391, .ref 304, .type "object"], ns := 466, qualname := "GuillotineBssfSas", hasDict := true, slotNames := [], subclasses := [], abstract := false, collection := none, hasDel := false }, #[(some (.ref 451)), none, (some (.str "GuillotineBssfSas" 762)), (some (.str "GuillotineBssfSas" 770)), (some (.builtin "object.__new__")), (some (.bool true))]⟩
noncomputable def o468 (P : Params) : Obj := ⟨.type "super", none, .fields #[.ref 467, .ref 467, .ref 467], #[]⟩
noncomputable def o469 (P : Params) : Obj := ⟨.type "builtin_function_or_method", none, .fields #[.builtin "object.__init_subclass__", .ref 467], #[]⟩
noncomputable def o470 (P : Params) : Obj := tO [.ref 448] 0
noncomputable def o471 (P : Params) : Obj := ⟨.type "builtin_function_or_method", none, .fields #[.builtin "type.__prepare__", .type "type"], #[]⟩
noncomputable def o472 (P : Params) : Obj := dO [kE P "__module__" 795 (.str "rectpack.guillotine" 553), kE P "__qualname__" 797 (.str "GuillotineBssfLas" 796), kE P "__firstlineno__" 799 (.int 261 798), kE P "_split" 809 (.ref 483), kE P "__static_attributes__" 810 (.ref 484)] 5
noncomputable def o473 (P : Params) : Obj := tO [] 0
noncomputable def o474 (P : Params) : Obj := ⟨.none, none, .fields #[.int 263 0, .int 4 0, .ref 482], #[]⟩
noncomputable def o475 (P : Params) : Obj := ⟨.type "code", none, .fields #[.str "GuillotineBssfLas" 790, .str "GuillotineBssfLas" 791, .str "/claim/cut.py" 792, .int 261 0, .int 0 0, .int 0 0, .int 0 0, .int 0 0, .ref 473, .bool false, .int 181 0, .ref 474, .none, .none, .none, .none, .int 793 0, .int 261 0, .str "/claim/cut.py" 794], #[]⟩
noncomputable def o476 (P : Params) : Obj := ⟨.type "frame", none, .plain, #[(some (.ref 475)), (some (.ref 3)), (some (.ref 472)), none, (some (.str "rectpack.guillotine" 553)), none, (some (.ref 0))]⟩
noncomputable def o477 (P : Params) : Obj := tO [] 0
noncomputable def o478 (P : Params) : Obj := ⟨.none, none, .fields #[], #[]⟩
noncomputable def o479 (P : Params) : Obj := tO [.str "self" 803, .str "section" 804, .str "width" 805, .str "height" 806] 0
noncomputable def o480 (P : Params) : Obj := tO [] 0
noncomputable def o481 (P : Params) : Obj := fO .none (inAt 12 0) "GuillotineBssfLas._split" 0 [] .none .none .none .none none .none .none 0
noncomputable def o482 (P : Params) : Obj := ⟨.type "code", none, .fields #[.str "_split" 800, .str "GuillotineBssfLas._split" 801, .str "/claim/cut.py" 802, .int 263 0, .int 4 0, .int 0 0, .int 0 0, .int 3 0, .ref 477, .bool true, .int 181 0, .ref 478, .none, .ref 479, .ref 480, .ref 481, .int 807 0, .int 263 0, .str "/claim/cut.py" 808], #[]⟩
noncomputable def o483 (P : Params) : Obj := fO (.type "function") (inAt 12 0) "GuillotineBssfLas._split" 3 [] .none .none .none (.str "rectpack.guillotine" 553) none (.ref 482) .none 0
noncomputable def o484 (P : Params) : Obj := tO [] 0
noncomputable def o485 (P : Params) : Obj := dO [kE P "__module__" 795 (.str "rectpack.guillotine" 553), kE P "__firstlineno__" 799 (.int 261 798), kE P "_split" 809 (.ref 483), kE P "__static_attributes__" 810 (.ref 484), kE P "__doc__" 811 .none] 2
noncomputable def o486 (P : Params) : Obj := ⟨.type "type", none, .cls { name := "GuillotineBssfLas", bases := [.ref 448], mro := [.ref 486, .ref 448, .ref 391, .ref 304, .type "object"], ns := 485, qualname := "GuillotineBssfLas", hasDict := true, slotNames := [], subclasses := [], abstract := false, collection := none, hasDel := false }, #[(some (.ref 470)), none, (some (.str "GuillotineBssfLas" 788)), (some (.str "GuillotineBssfLas" 796)), (some (.builtin "object.__new__")), (some (.bool true))]⟩
noncomputable def o487 (P : Params) : Obj := ⟨.type "super", none, .fields #[.ref 486, .ref 486, .ref 486], #[]⟩
noncomputable def o488 (P : Params) : Obj := ⟨.type "builtin_function_or_method", none, .fields #[.builtin "object.__init_subclass__", .ref 486], #[]⟩
noncomputable def o489 (P : Params) : Obj := tO [.ref 448] 0
noncomputable def o490 (P : Params) : Obj := ⟨.type "builtin_function_or_method", none, .fields #[.builtin "type.__prepare__", .type "type"], #[]⟩
noncomputable def o491 (P : Params) : Obj := dO [kE P "__module__" 821 (.str "rectpack.guillotine" 553), kE P "__qualname__" 823 (.str "GuillotineBssfSlas" 822), kE P "__firstlineno__" 825 (.int 268 824), kE P "_split" 835 (.ref 502), kE P "__static_attributes__" 836 (.ref 503)] 5
noncomputable def o492 (P : Params) : Obj := tO [] 0
noncomputable def o493 (P : Params) : Obj := ⟨.none, none, .fields #[.int 270 0, .int 4 0, .ref 501], #[]⟩
noncomputable def o494 (P : Params) : Obj := ⟨.type "code", none, .fields #[.str "GuillotineBssfSlas" 816, .str "GuillotineBssfSlas" 817, .str "/claim/cut.py" 818, .int 268 0, .int 0 0, .int 0 0, .int 0 0, .int 0 0, .ref 492, .bool false, .int 181 0, .ref 493, .none, .none, .none, .none, .int 819 0, .int 268 0, .str "/claim/cut.py" 820], #[]⟩
noncomputable def o495 (P : Params) : Obj := ⟨.type "frame", none, .plain, #[(some (.ref 494)), (some (.ref 3)), (some (.ref 491)), none, (some (.str "rectpack.guillotine" 553)), none, (some (.ref 0))]⟩
noncomputable def o496 (P : Params) : Obj := tO [] 0
noncomputable def o497 (P : Params) : Obj := ⟨.none, none, .fields #[], #[]⟩
noncomputable def o498 (P : Params) : Obj := tO [.str "self" 829, .str "section" 830, .str "width" 831, .str "height" 832] 0
noncomputable def o499 (P : Params) : Obj := tO [] 0
noncomputable def o500 (P : Params) : Obj := fO .none (inAt 13 0) "GuillotineBssfSlas._split" 0 [] .none .none .none .none none .none .none 0
noncomputable def o501 (P : Params) : Obj := ⟨.type "code", none, .fields #[.str "_split" 826, .str "GuillotineBssfSlas._split" 827, .str "/claim/cut.py" 828, .int 270 0, .int 4 0, .int 0 0, .int 0 0, .int 3 0, .ref 496, .bool true, .int 181 0, .ref 497, .none, .ref 498, .ref 499, .ref 500, .int 833 0, .int 270 0, .str "/claim/cut.py" 834], #[]⟩
noncomputable def o502 (P : Params) : Obj := fO (.type "function") (inAt 13 0) "GuillotineBssfSlas._split" 3 [] .none .none .none (.str "rectpack.guillotine" 553) none (.ref 501) .none 0
noncomputable def o503 (P : Params) : Obj := tO [] 0
noncomputable def o504 (P : Params) : Obj := dO [kE P "__module__" 821 (.str "rectpack.guillotine" 553), kE P "__firstlineno__" 825 (.int 268 824), kE P "_split" 835 (.ref 502), kE P "__static_attributes__" 836 (.ref 503), kE P "__doc__" 837 .none] 2
noncomputable def o505 (P : Params) : Obj := ⟨.type "type", none, .cls { name := "GuillotineBssfSlas", bases := [.ref 448], mro := [.ref 505, .ref 448, .ref 391, .ref 304, .type "object"], ns := 504, qualname := "GuillotineBssfSlas", hasDict := true, slotNames := [], subclasses := [], abstract := false, collection := none, hasDel := false }, #[(some (.ref 489)), none, (some (.str "GuillotineBssfSlas" 814)), (some (.str "GuillotineBssfSlas" 822)), (some (.builtin "object.__new__")), (some (.bool true))]⟩
noncomputable def o506 (P : Params) : Obj := ⟨.type "super", none, .fields #[.ref 505, .ref 505, .ref 505], #[]⟩
noncomputable def o507 (P : Params) : Obj := ⟨.type "builtin_function_or_method", none, .fields #[.builtin "object.__init_subclass__", .ref 505], #[]⟩
noncomputable def o508 (P : Params) : Obj := tO [.ref 448] 0
noncomputable def o509 (P : Params) : Obj := ⟨.type "builtin_function_or_method", none, .fields #[.builtin "type.__prepare__", .type "type"], #[]⟩
noncomputable def o510 (P : Params) : Obj := dO [kE P "__module__" 847 (.str "rectpack.guillotine" 553), kE P "__qualname__" 849 (.str "GuillotineBssfLlas" 848), kE P "__firstlineno__" 851 (.int 275 850), kE P "_split" 861 (.ref 521), kE P "__static_attributes__" 862 (.ref 522)] 5
noncomputable def o511 (P : Params) : Obj := tO [] 0
noncomputable def o512 (P : Params) : Obj := ⟨.none, none, .fields #[.int 277 0, .int 4 0, .ref 520], #[]⟩
noncomputable def o513 (P : Params) : Obj := ⟨.type "code", none, .fields #[.str "GuillotineBssfLlas" 842, .str "GuillotineBssfLlas" 843, .str "/claim/cut.py" 844, .int 275 0, .int 0 0, .int 0 0, .int 0 0, .int 0 0, .ref 511, .bool false, .int 181 0, .ref 512, .none, .none, .none, .none, .int 845 0, .int 275 0, .str "/claim/cut.py" 846], #[]⟩
noncomputable def o514 (P : Params) : Obj := ⟨.type "frame", none, .plain, #[(some (.ref 513)), (some (.ref 3)), (some (.ref 510)), none, (some (.str "rectpack.guillotine" 553)), none, (some (.ref 0))]⟩
noncomputable def o515 (P : Params) : Obj := tO [] 0
noncomputable def o516 (P : Params) : Obj := ⟨.none, none, .fields #[], #[]⟩
noncomputable def o517 (P : Params) : Obj := tO [.str "self" 855, .str "section" 856, .str "width" 857, .str "height" 858] 0
noncomputable def o518 (P : Params) : Obj := tO [] 0
noncomputable def o519 (P : Params) : Obj := fO .none (inAt 14 0) "GuillotineBssfLlas._split" 0 [] .none .none .none .none none .none .none 0
noncomputable def o520 (P : Params) : Obj := ⟨.type "code", none, .fields #[.str "_split" 852, .str "GuillotineBssfLlas._split" 853, .str "/claim/cut.py" 854, .int 277 0, .int 4 0, .int 0 0, .int 0 0, .int 3 0, .ref 515, .bool true, .int 181 0, .ref 516, .none, .ref 517, .ref 518, .ref 519, .int 859 0, .int 277 0, .str "/claim/cut.py" 860], #[]⟩
noncomputable def o521 (P : Params) : Obj := fO (.type "function") (inAt 14 0) "GuillotineBssfLlas._split" 3 [] .none .none .none (.str "rectpack.guillotine" 553) none (.ref 520) .none 0
noncomputable def o522 (P : Params) : Obj := tO [] 0
noncomputable def o523 (P : Params) : Obj := dO [kE P "__module__" 847 (.str "rectpack.guillotine" 553), kE P "__firstlineno__" 851 (.int 275 850), kE P "_split" 861 (.ref 521), kE P "__static_attributes__" 862 (.ref 522), kE P "__doc__" 863 .none] 2
noncomputable def o524 (P : Params) : Obj := ⟨.type "type", none, .cls { name := "GuillotineBssfLlas", bases := [.ref 448], mro := [.ref 524, .ref 448, .ref 391, .ref 304, .type "object"], ns := 523, qualname := "GuillotineBssfLlas", hasDict := true, slotNames := [], subclasses := [], abstract := false, collection := none, hasDel := false }, #[(some (.ref 508)), none, (some (.str "GuillotineBssfLlas" 840)), (some (.str "GuillotineBssfLlas" 848)), (some (.builtin "object.__new__")), (some (.bool true))]⟩
noncomputable def o525 (P : Params) : Obj := ⟨.type "super", none, .fields #[.ref 524, .ref 524, .ref 524], #[]⟩
noncomputable def o526 (P : Params) : Obj := ⟨.type "builtin_function_or_method", none, .fields #[.builtin "object.__init_subclass__", .ref 524], #[]⟩
noncomputable def o3v3 (P : Params) : Obj := dO [kE P "__name__" 165 (.str "rectpack.guillotine" 553), kE P "__doc__" 166 .none, kE P "__package__" 167 .none, kE P "__loader__" 168 (.builtin "__main__.__loader__#opaque"), kE P "__spec__" 169 .none, kE P "__annotations__" 170 (.ref 6), kE P "__builtins__" 171 (.ref 4), kE P "__file__" 173 (.str "/claim/cut.py" 172), kE P "__cached__" 174 .none, kE P "_wall" 193 (.ref 21), kE P "Point" 243 (.ref 52), kE P "Rectangle" 422 (.ref 203), kE P "PackingAlgorithm" 552 (.ref 304), kE P "Guillotine" 683 (.ref 391), kE P "GuillotineBaf" 709 (.ref 410), kE P "GuillotineBlsf" 735 (.ref 429), kE P "GuillotineBssf" 761 (.ref 448), kE P "GuillotineBssfSas" 787 (.ref 467), kE P "GuillotineBssfLas" 813 (.ref 486), kE P "GuillotineBssfSlas" 839 (.ref 505), kE P "GuillotineBssfLlas" 865 (.ref 524), kE P "GuillotineBssfMaxas" 891 (.ref 543), kE P "GuillotineBssfMinas" 917 (.ref 562), kE P "GuillotineBlsfSas" 943 (.ref 581), kE P "GuillotineBlsfLas" 969 (.ref 600), kE P "GuillotineBlsfSlas" 995 (.ref 619), kE P "GuillotineBlsfLlas" 1021 (.ref 638)] 27
noncomputable def o12v4 (P : Params) : Obj := ⟨.none, none, .fields #[.int 1 0, .int 0 0, .ref 20, .int 5 0, .int 0 0, .ref 27, .int 16 0, .int 0 0, .ref 62, .int 117 0, .int 0 0, .ref 213, .int 165 0, .int 0 0, .ref 315, .int 236 0, .int 0 0, .ref 399, .int 242 0, .int 0 0, .ref 418, .int 248 0, .int 0 0, .ref 437, .int 254 0, .int 0 0, .ref 456, .int 261 0, .int 0 0, .ref 475, .int 268 0, .int 0 0, .ref 494, .int 275 0, .int 0 0, .ref 513, .int 282 0, .int 0 0, .ref 532, .int 289 0, .int 0 0, .ref 551, .int 296 0, .int 0 0, .ref 570, .int 303 0, .int 0 0, .ref 589, .int 310 0, .int 0 0, .ref 608, .int 317 0, .int 0 0, .ref 627], #[]⟩
noncomputable def o429v1 (P : Params) : Obj := ⟨.type "type", none, .cls { name := "GuillotineBlsf", bases := [.ref 391], mro := [.ref 429, .ref 391, .ref 304, .type "object"], ns := 428, qualname := "GuillotineBlsf", hasDict := true, slotNames := [], subclasses := [.ref 581, .ref 600, .ref 619, .ref 638], abstract := false, collection := none, hasDel := false }, #[(some (.ref 413)), none, (some (.str "GuillotineBlsf" 710)), (some (.str "GuillotineBlsf" 718)), (some (.builtin "object.__new__")), (some (.bool true))]⟩
noncomputable def o448v1 (P : Params) : Obj := ⟨.type "type", none, .cls { name := "GuillotineBssf", bases := [.ref 391], mro := [.ref 448, .ref 391, .ref 304, .type "object"], ns := 447, qualname := "GuillotineBssf", hasDict := true, slotNames := [], subclasses := [.ref 467, .ref 486, .ref 505, .ref 524, .ref 543, .ref 562], abstract := false, collection := none, hasDel := false }, #[(some (.ref 432)), none, (some (.str "GuillotineBssf" 736)), (some (.str "GuillotineBssf" 744)), (some (.builtin "object.__new__")), (some (.bool true))]⟩
noncomputable def o527 (P : Params) : Obj := tO [.ref 448] 0
noncomputable def o528 (P : Params) : Obj := ⟨.type "builtin_function_or_method", none, .fields #[.builtin "type.__prepare__", .type "type"], #[]⟩
noncomputable def o529 (P : Params) : Obj := dO [kE P "__module__" 873 (.str "rectpack.guillotine" 553), kE P "__qualname__" 875 (.str "GuillotineBssfMaxas" 874), kE P "__firstlineno__" 877 (.int 282 876), kE P "_split" 887 (.ref 540), kE P "__static_attributes__" 888 (.ref 541)] 5
noncomputable def o530 (P : Params) : Obj := tO [] 0
noncomputable def o531 (P : Params) : Obj := ⟨.none, none, .fields #[.int 284 0, .int 4 0, .ref 539], #[]⟩
noncomputable def o532 (P : Params) : Obj := ⟨.type "code", none, .fields #[.str "GuillotineBssfMaxas" 868, .str "GuillotineBssfMaxas" 869, .str "/claim/cut.py" 870, .int 282 0, .int 0 0, .int 0 0, .int 0 0, .int 0 0, .ref 530, .bool false, .int 181 0, .ref 531, .none, .none, .none, .none, .int 871 0, .int 282 0, .str "/claim/cut.py" 872], #[]⟩
noncomputable def o533 (P : Params) : Obj := ⟨.type "frame", none, .plain, #[(some (.ref 532)), (some (.ref 3)), (some (.ref 529)), none, (some (.str "rectpack.guillotine" 553)), none, (some (.ref 0))]⟩
noncomputable def o534 (P : Params) : Obj := tO [] 0
noncomputable def o535 (P : Params) : Obj := ⟨.none, none, .fields #[], #[]⟩
noncomputable def o536 (P : Params) : Obj := tO [.str "self" 881, .str "section" 882, .str "width" 883, .str "height" 884] 0
noncomputable def o537 (P : Params) : Obj := tO [] 0
noncomputable def o538 (P : Params) : Obj := fO .none (inAt 15 0) "GuillotineBssfMaxas._split" 0 [] .none .none .none .none none .none .none 0
noncomputable def o539 (P : Params) : Obj := ⟨.type "code", none, .fields #[.str "_split" 878, .str "GuillotineBssfMaxas._split" 879, .str "/claim/cut.py" 880, .int 284 0, .int 4 0, .int 0 0, .int 0 0, .int 3 0, .ref 534, .bool true, .int 181 0, .ref 535, .none, .ref 536, .ref 537, .ref 538, .int 885 0, .int 284 0, .str "/claim/cut.py" 886], #[]⟩
noncomputable def o540 (P : Params) : Obj := fO (.type "function") (inAt 15 0) "GuillotineBssfMaxas._split" 3 [] .none .none .none (.str "rectpack.guillotine" 553) none (.ref 539) .none 0
noncomputable def o541 (P : Params) : Obj := tO [] 0
noncomputable def o542 (P : Params) : Obj := dO [kE P "__module__" 873 (.str "rectpack.guillotine" 553), kE P "__firstlineno__" 877 (.int 282 876), kE P "_split" 887 (.ref 540), kE P "__static_attributes__" 888 (.ref 541), kE P "__doc__" 889 .none] 2
noncomputable def o543 (P : Params) : Obj := ⟨.type "type", none, .cls { name := "GuillotineBssfMaxas", bases := [.ref 448], mro := [.ref 543, .ref 448, .ref 391, .ref 304, .type "object"], ns := 542, qualname := "GuillotineBssfMaxas", hasDict := true, slotNames := [], subclasses := [], abstract := false, collection := none, hasDel := false }, #[(some (.ref 527)), none, (some (.str "GuillotineBssfMaxas" 866)), (some (.str "GuillotineBssfMaxas" 874)), (some (.builtin "object.__new__")), (some (.bool true))]⟩
noncomputable def o544 (P : Params) : Obj := ⟨.type "super", none, .fields #[.ref 543, .ref 543, .ref 543], #[]⟩
noncomputable def o545 (P : Params) : Obj := ⟨.type "builtin_function_or_method", none, .fields #[.builtin "object.__init_subclass__", .ref 543], #[]⟩
noncomputable def o546 (P : Params) : Obj := tO [.ref 448] 0
noncomputable def o547 (P : Params) : Obj := ⟨.type "builtin_function_or_method", none, .fields #[.builtin "type.__prepare__", .type "type"], #[]⟩
noncomputable def o548 (P : Params) : Obj := dO [kE P "__module__" 899 (.str "rectpack.guillotine" 553), kE P "__qualname__" 901 (.str "GuillotineBssfMinas" 900), kE P "__firstlineno__" 903 (.int 289 902), kE P "_split" 913 (.ref 559), kE P "__static_attributes__" 914 (.ref 560)] 5
noncomputable def o549 (P : Params) : Obj := tO [] 0
noncomputable def o550 (P : Params) : Obj := ⟨.none, none, .fields #[.int 291 0, .int 4 0, .ref 558], #[]⟩
noncomputable def o551 (P : Params) : Obj := ⟨.type "code", none, .fields #[.str "GuillotineBssfMinas" 894, .str "GuillotineBssfMinas" 895, .str "/claim/cut.py" 896, .int 289 0, .int 0 0, .int 0 0, .int 0 0, .int 0 0, .ref 549, .bool false, .int 181 0, .ref 550, .none, .none, .none, .none, .int 897 0, .int 289 0, .str "/claim/cut.py" 898], #[]⟩
noncomputable def o552 (P : Params) : Obj := ⟨.type "frame", none, .plain, #[(some (.ref 551)), (some (.ref 3)), (some (.ref 548)), none, (some (.str "rectpack.guillotine" 553)), none, (some (.ref 0))]⟩
noncomputable def o553 (P : Params) : Obj := tO [] 0
noncomputable def o554 (P : Params) : Obj := ⟨.none, none, .fields #[], #[]⟩
noncomputable def o555 (P : Params) : Obj := tO [.str "self" 907, .str "section" 908, .str "width" 909, .str "height" 910] 0
noncomputable def o556 (P : Params) : Obj := tO [] 0
noncomputable def o557 (P : Params) : Obj := fO .none (inAt 16 0) "GuillotineBssfMinas._split" 0 [] .none .none .none .none none .none .none 0
noncomputable def o558 (P : Params) : Obj := ⟨.type "code", none, .fields #[.str "_split" 904, .str "GuillotineBssfMinas._split" 905, .str "/claim/cut.py" 906, .int 291 0, .int 4 0, .int 0 0, .int 0 0, .int 3 0, .ref 553, .bool true, .int 181 0, .ref 554, .none, .ref 555, .ref 556, .ref 557, .int 911 0, .int 291 0, .str "/claim/cut.py" 912], #[]⟩
noncomputable def o559 (P : Params) : Obj := fO (.type "function") (inAt 16 0) "GuillotineBssfMinas._split" 3 [] .none .none .none (.str "rectpack.guillotine" 553) none (.ref 558) .none 0
noncomputable def o560 (P : Params) : Obj := tO [] 0
noncomputable def o561 (P : Params) : Obj := dO [kE P "__module__" 899 (.str "rectpack.guillotine" 553), kE P "__firstlineno__" 903 (.int 289 902), kE P "_split" 913 (.ref 559), kE P "__static_attributes__" 914 (.ref 560), kE P "__doc__" 915 .none] 2
noncomputable def o562 (P : Params) : Obj := ⟨.type "type", none, .cls { name := "GuillotineBssfMinas", bases := [.ref 448], mro := [.ref 562, .ref 448, .ref 391, .ref 304, .type "object"], ns := 561, qualname := "GuillotineBssfMinas", hasDict := true, slotNames := [], subclasses := [], abstract := false, collection := none, hasDel := false }, #[(some (.ref 546)), none, (some (.str "GuillotineBssfMinas" 892)), (some (.str "GuillotineBssfMinas" 900)), (some (.builtin "object.__new__")), (some (.bool true))]⟩
noncomputable def o563 (P : Params) : Obj := ⟨.type "super", none, .fields #[.ref 562, .ref 562, .ref 562], #[]⟩
noncomputable def o564 (P : Params) : Obj := ⟨.type "builtin_function_or_method", none, .fields #[.builtin "object.__init_subclass__", .ref 562], #[]⟩
noncomputable def o565 (P : Params) : Obj := tO [.ref 429] 0
noncomputable def o566 (P : Params) : Obj := ⟨.type "builtin_function_or_method", none, .fields #[.builtin "type.__prepare__", .type "type"], #[]⟩
noncomputable def o567 (P : Params) : Obj := dO [kE P "__module__" 925 (.str "rectpack.guillotine" 553), kE P "__qualname__" 927 (.str "GuillotineBlsfSas" 926), kE P "__firstlineno__" 929 (.int 296 928), kE P "_split" 939 (.ref 578), kE P "__static_attributes__" 940 (.ref 579)] 5
noncomputable def o568 (P : Params) : Obj := tO [] 0
noncomputable def o569 (P : Params) : Obj := ⟨.none, none, .fields #[.int 298 0, .int 4 0, .ref 577], #[]⟩
noncomputable def o570 (P : Params) : Obj := ⟨.type "code", none, .fields #[.str "GuillotineBlsfSas" 920, .str "GuillotineBlsfSas" 921, .str "/claim/cut.py" 922, .int 296 0, .int 0 0, .int 0 0, .int 0 0, .int 0 0, .ref 568, .bool false, .int 181 0, .ref 569, .none, .none, .none, .none, .int 923 0, .int 296 0, .str "/claim/cut.py" 924], #[]⟩
noncomputable def o571 (P : Params) : Obj := ⟨.type "frame", none, .plain, #[(some (.ref 570)), (some (.ref 3)), (some (.ref 567)), none, (some (.str "rectpack.guillotine" 553)), none, (some (.ref 0))]⟩
noncomputable def o572 (P : Params) : Obj := tO [] 0
noncomputable def o573 (P : Params) : Obj := ⟨.none, none, .fields #[], #[]⟩
noncomputable def o574 (P : Params) : Obj := tO [.str "self" 933, .str "section" 934, .str "width" 935, .str "height" 936] 0
noncomputable def o575 (P : Params) : Obj := tO [] 0
noncomputable def o576 (P : Params) : Obj := fO .none (inAt 17 0) "GuillotineBlsfSas._split" 0 [] .none .none .none .none none .none .none 0
noncomputable def o577 (P : Params) : Obj := ⟨.type "code", none, .fields #[.str "_split" 930, .str "GuillotineBlsfSas._split" 931, .str "/claim/cut.py" 932, .int 298 0, .int 4 0, .int 0 0, .int 0 0, .int 3 0, .ref 572, .bool true, .int 181 0, .ref 573, .none, .ref 574, .ref 575, .ref 576, .int 937 0, .int 298 0, .str "/claim/cut.py" 938], #[]⟩
noncomputable def o578 (P : Params) : Obj := fO (.type "function") (inAt 17 0) "GuillotineBlsfSas._split" 3 [] .none .none .none (.str "rectpack.guillotine" 553) none (.ref 577) .none 0
noncomputable def o579 (P : Params) : Obj := tO [] 0
noncomputable def o580 (P : Params) : Obj := dO [kE P "__module__" 925 (.str "rectpack.guillotine" 553), kE P "__firstlineno__" 929 (.int 296 928), kE P "_split" 939 (.ref 578), kE P "__static_attributes__" 940 (.ref 579), kE P "__doc__" 941 .none] 2
noncomputable def o581 (P : Params) : Obj := ⟨.type "type", none, .cls { name := "GuillotineBlsfSas", bases := [.ref 429], mro := [.ref 581, .ref 429, .ref 391, .ref 304, .type "object"], ns := 580, qualname := "GuillotineBlsfSas", hasDict := true, slotNames := [], subclasses := [], abstract := false, collection := none, hasDel := false }, #[(some (.ref 565)), none, (some (.str "GuillotineBlsfSas" 918)), (some (.str "GuillotineBlsfSas" 926)), (some (.builtin "object.__new__")), (some (.bool true))]⟩
noncomputable def o582 (P : Params) : Obj := ⟨.type "super", none, .fields #[.ref 581, .ref 581, .ref 581], #[]⟩
noncomputable def o583 (P : Params) : Obj := ⟨.type "builtin_function_or_method", none, .fields #[.builtin "object.__init_subclass__", .ref 581], #[]⟩
noncomputable def o584 (P : Params) : Obj := tO [.ref 429] 0
noncomputable def o585 (P : Params) : Obj := ⟨.type "builtin_function_or_method", none, .fields #[.builtin "type.__prepare__", .type "type"], #[]⟩
noncomputable def o586 (P : Params) : Obj := dO [kE P "__module__" 951 (.str "rectpack.guillotine" 553), kE P "__qualname__" 953 (.str "GuillotineBlsfLas" 952), kE P "__firstlineno__" 955 (.int 303 954), kE P "_split" 965 (.ref 597), kE P "__static_attributes__" 966 (.ref 598)] 5
noncomputable def o587 (P : Params) : Obj := tO [] 0
noncomputable def o588 (P : Params) : Obj := ⟨.none, none, .fields #[.int 305 0, .int 4 0, .ref 596], #[]⟩
noncomputable def o589 (P : Params) : Obj := ⟨.type "code", none, .fields #[.str "GuillotineBlsfLas" 946, .str "GuillotineBlsfLas" 947, .str "/claim/cut.py" 948, .int 303 0, .int 0 0, .int 0 0, .int 0 0, .int 0 0, .ref 587, .bool false, .int 181 0, .ref 588, .none, .none, .none, .none, .int 949 0, .int 303 0, .str "/claim/cut.py" 950], #[]⟩
noncomputable def o590 (P : Params) : Obj := ⟨.type "frame", none, .plain, #[(some (.ref 589)), (some (.ref 3)), (some (.ref 586)), none, (some (.str "rectpack.guillotine" 553)), none, (some (.ref 0))]⟩
noncomputable def o591 (P : Params) : Obj := tO [] 0
noncomputable def o592 (P : Params) : Obj := ⟨.none, none, .fields #[], #[]⟩
noncomputable def o593 (P : Params) : Obj := tO [.str "self" 959, .str "section" 960, .str "width" 961, .str "height" 962] 0
noncomputable def o594 (P : Params) : Obj := tO [] 0
noncomputable def o595 (P : Params) : Obj := fO .none (inAt 18 0) "GuillotineBlsfLas._split" 0 [] .none .none .none .none none .none .none 0
noncomputable def o596 (P : Params) : Obj := ⟨.type "code", none, .fields #[.str "_split" 956, .str "GuillotineBlsfLas._split" 957, .str "/claim/cut.py" 958, .int 305 0, .int 4 0, .int 0 0, .int 0 0, .int 3 0, .ref 591, .bool true, .int 181 0, .ref 592, .none, .ref 593, .ref 594, .ref 595, .int 963 0, .int 305 0, .str "/claim/cut.py" 964], #[]⟩
noncomputable def o597 (P : Params) : Obj := fO (.type "function") (inAt 18 0) "GuillotineBlsfLas._split" 3 [] .none .none .none (.str "rectpack.guillotine" 553) none (.ref 596) .none 0
noncomputable def o598 (P : Params) : Obj := tO [] 0
noncomputable def o599 (P : Params) : Obj := dO [kE P "__module__" 951 (.str "rectpack.guillotine" 553), kE P "__firstlineno__" 955 (.int 303 954), kE P "_split" 965 (.ref 597), kE P "__static_attributes__" 966 (.ref 598), kE P "__doc__" 967 .none] 2
noncomputable def o600 (P : Params) : Obj := ⟨.type "type", none, .cls { name := "GuillotineBlsfLas", bases := [.ref 429], mro := [.ref 600, .ref 429, .ref 391, .ref 304, .type "object"], ns := 599, qualname := "GuillotineBlsfLas", hasDict := true, slotNames := [], subclasses := [], abstract := false, collection := none, hasDel := false }, #[(some (.ref 584)), none, (some (.str "GuillotineBlsfLas" 944)), (some (.str "GuillotineBlsfLas" 952)), (some (.builtin "object.__new__")), (some (.bool true))]⟩
noncomputable def o601 (P : Params) : Obj := ⟨.type "super", none, .fields #[.ref 600, .ref 600, .ref 600], #[]⟩
noncomputable def o602 (P : Params) : Obj := ⟨.type "builtin_function_or_method", none, .fields #[.builtin "object.__init_subclass__", .ref 600], #[]⟩
noncomputable def o603 (P : Params) : Obj := tO [.ref 429] 0
noncomputable def o604 (P : Params) : Obj := ⟨.type "builtin_function_or_method", none, .fields #[.builtin "type.__prepare__", .type "type"], #[]⟩
noncomputable def o605 (P : Params) : Obj := dO [kE P "__module__" 977 (.str "rectpack.guillotine" 553), kE P "__qualname__" 979 (.str "GuillotineBlsfSlas" 978), kE P "__firstlineno__" 981 (.int 310 980), kE P "_split" 991 (.ref 616), kE P "__static_attributes__" 992 (.ref 617)] 5
noncomputable def o606 (P : Params) : Obj := tO [] 0
noncomputable def o607 (P : Params) : Obj := ⟨.none, none, .fields #[.int 312 0, .int 4 0, .ref 615], #[]⟩
noncomputable def o608 (P : Params) : Obj := ⟨.type "code", none, .fields #[.str "GuillotineBlsfSlas" 972, .str "GuillotineBlsfSlas" 973, .str "/claim/cut.py" 974, .int 310 0, .int 0 0, .int 0 0, .int 0 0, .int 0 0, .ref 606, .bool false, .int 181 0, .ref 607, .none, .none, .none, .none, .int 975 0, .int 310 0, .str "/claim/cut.py" 976], #[]⟩
noncomputable def o609 (P : Params) : Obj := ⟨.type "frame", none, .plain, #[(some (.ref 608)), (some (.ref 3)), (some (.ref 605)), none, (some (.str "rectpack.guillotine" 553)), none, (some (.ref 0))]⟩
noncomputable def o610 (P : Params) : Obj := tO [] 0
noncomputable def o611 (P : Params) : Obj := ⟨.none, none, .fields #[], #[]⟩
noncomputable def o612 (P : Params) : Obj := tO [.str "self" 985, .str "section" 986, .str "width" 987, .str "height" 988] 0
noncomputable def o613 (P : Params) : Obj := tO [] 0
noncomputable def o614 (P : Params) : Obj := fO .none (inAt 19 0) "GuillotineBlsfSlas._split" 0 [] .none .none .none .none none .none .none 0
noncomputable def o615 (P : Params) : Obj := ⟨.type "code", none, .fields #[.str "_split" 982, .str "GuillotineBlsfSlas._split" 983, .str "/claim/cut.py" 984, .int 312 0, .int 4 0, .int 0 0, .int 0 0, .int 3 0, .ref 610, .bool true, .int 181 0, .ref 611, .none, .ref 612, .ref 613, .ref 614, .int 989 0, .int 312 0, .str "/claim/cut.py" 990], #[]⟩
noncomputable def o616 (P : Params) : Obj := fO (.type "function") (inAt 19 0) "GuillotineBlsfSlas._split" 3 [] .none .none .none (.str "rectpack.guillotine" 553) none (.ref 615) .none 0
noncomputable def o617 (P : Params) : Obj := tO [] 0
noncomputable def o618 (P : Params) : Obj := dO [kE P "__module__" 977 (.str "rectpack.guillotine" 553), kE P "__firstlineno__" 981 (.int 310 980), kE P "_split" 991 (.ref 616), kE P "__static_attributes__" 992 (.ref 617), kE P "__doc__" 993 .none] 2
noncomputable def o619 (P : Params) : Obj := ⟨.type "type", none, .cls { name := "GuillotineBlsfSlas", bases := [.ref 429], mro := [.ref 619, .ref 429, .ref 391, .ref 304, .type "object"], ns := 618, qualname := "GuillotineBlsfSlas", hasDict := true, slotNames := [], subclasses := [], abstract := false, collection := none, hasDel := false }, #[(some (.ref 603)), none, (some (.str "GuillotineBlsfSlas" 970)), (some (.str "GuillotineBlsfSlas" 978)), (some (.builtin "object.__new__")), (some (.bool true))]⟩
noncomputable def o620 (P : Params) : Obj := ⟨.type "super", none, .fields #[.ref 619, .ref 619, .ref 619], #[]⟩
noncomputable def o621 (P : Params) : Obj := ⟨.type "builtin_function_or_method", none, .fields #[.builtin "object.__init_subclass__", .ref 619], #[]⟩
noncomputable def o622 (P : Params) : Obj := tO [.ref 429] 0
noncomputable def o623 (P : Params) : Obj := ⟨.type "builtin_function_or_method", none, .fields #[.builtin "type.__prepare__", .type "type"], #[]⟩
noncomputable def o624 (P : Params) : Obj := dO [kE P "__module__" 1003 (.str "rectpack.guillotine" 553), kE P "__qualname__" 1005 (.str "GuillotineBlsfLlas" 1004), kE P "__firstlineno__" 1007 (.int 317 1006), kE P "_split" 1017 (.ref 635), kE P "__static_attributes__" 1018 (.ref 636)] 5
noncomputable def o625 (P : Params) : Obj := tO [] 0
noncomputable def o626 (P : Params) : Obj := ⟨.none, none, .fields #[.int 319 0, .int 4 0, .ref 634], #[]⟩
noncomputable def o627 (P : Params) : Obj := ⟨.type "code", none, .fields #[.str "GuillotineBlsfLlas" 998, .str "GuillotineBlsfLlas" 999, .str "/claim/cut.py" 1000, .int 317 0, .int 0 0, .int 0 0, .int 0 0, .int 0 0, .ref 625, .bool false, .int 181 0, .ref 626, .none, .none, .none, .none, .int 1001 0, .int 317 0, .str "/claim/cut.py" 1002], #[]⟩
noncomputable def o628 (P : Params) : Obj := ⟨.type "frame", none, .plain, #[(some (.ref 627)), (some (.ref 3)), (some (.ref 624)), none, (some (.str "rectpack.guillotine" 553)), none, (some (.ref 0))]⟩
noncomputable def o629 (P : Params) : Obj := tO [] 0
noncomputable def o630 (P : Params) : Obj := ⟨.none, none, .fields #[], #[]⟩
noncomputable def o631 (P : Params) : Obj := tO [.str "self" 1011, .str "section" 1012, .str "width" 1013, .str "height" 1014] 0
noncomputable def o632 (P : Params) : Obj := tO [] 0
noncomputable def o633 (P : Params) : Obj := fO .none (inAt 20 0) "GuillotineBlsfLlas._split" 0 [] .none .none .none .none none .none .none 0
noncomputable def o634 (P : Params) : Obj := ⟨.type "code", none, .fields #[.str "_split" 1008, .str "GuillotineBlsfLlas._split" 1009, .str "/claim/cut.py" 1010, .int 319 0, .int 4 0, .int 0 0, .int 0 0, .int 3 0, .ref 629, .bool true, .int 181 0, .ref 630, .none, .ref 631, .ref 632, .ref 633, .int 1015 0, .int 319 0, .str "/claim/cut.py" 1016], #[]⟩
noncomputable def o635 (P : Params) : Obj := fO (.type "function") (inAt 20 0) "GuillotineBlsfLlas._split" 3 [] .none .none .none (.str "rectpack.guillotine" 553) none (.ref 634) .none 0
noncomputable def o636 (P : Params) : Obj := tO [] 0
noncomputable def o637 (P : Params) : Obj := dO [kE P "__module__" 1003 (.str "rectpack.guillotine" 553), kE P "__firstlineno__" 1007 (.int 317 1006), kE P "_split" 1017 (.ref 635), kE P "__static_attributes__" 1018 (.ref 636), kE P "__doc__" 1019 .none] 2
noncomputable def o638 (P : Params) : Obj := ⟨.type "type", none, .cls { name := "GuillotineBlsfLlas", bases := [.ref 429], mro := [.ref 638, .ref 429, .ref 391, .ref 304, .type "object"], ns := 637, qualname := "GuillotineBlsfLlas", hasDict := true, slotNames := [], subclasses := [], abstract := false, collection := none, hasDel := false }, #[(some (.ref 622)), none, (some (.str "GuillotineBlsfLlas" 996)), (some (.str "GuillotineBlsfLlas" 1004)), (some (.builtin "object.__new__")), (some (.bool true))]⟩
noncomputable def o639 (P : Params) : Obj := ⟨.type "super", none, .fields #[.ref 638, .ref 638, .ref 638], #[]⟩
noncomputable def o640 (P : Params) : Obj := ⟨.type "builtin_function_or_method", none, .fields #[.builtin "object.__init_subclass__", .ref 638], #[]⟩
noncomputable def o3v4 (P : Params) : Obj := dO [kE P "__name__" 165 (.str "rectpack.guillotine" 553), kE P "__doc__" 166 .none, kE P "__package__" 167 .none, kE P "__loader__" 168 (.builtin "__main__.__loader__#opaque"), kE P "__spec__" 169 .none, kE P "__annotations__" 170 (.ref 6), kE P "__builtins__" 171 (.ref 4), kE P "__file__" 173 (.str "/claim/cut.py" 172), kE P "__cached__" 174 .none, kE P "_wall" 193 (.ref 21), kE P "Point" 243 (.ref 52), kE P "Rectangle" 422 (.ref 203), kE P "PackingAlgorithm" 552 (.ref 304), kE P "Guillotine" 683 (.ref 391), kE P "GuillotineBaf" 709 (.ref 410), kE P "GuillotineBlsf" 735 (.ref 429), kE P "GuillotineBssf" 761 (.ref 448), kE P "GuillotineBssfSas" 787 (.ref 467), kE P "GuillotineBssfLas" 813 (.ref 486), kE P "GuillotineBssfSlas" 839 (.ref 505), kE P "GuillotineBssfLlas" 865 (.ref 524), kE P "GuillotineBssfMaxas" 891 (.ref 543), kE P "GuillotineBssfMinas" 917 (.ref 562), kE P "GuillotineBlsfSas" 943 (.ref 581), kE P "GuillotineBlsfLas" 969 (.ref 600), kE P "GuillotineBlsfSlas" 995 (.ref 619), kE P "GuillotineBlsfLlas" 1021 (.ref 638), kE P "GuillotineBlsfMaxas" 1047 (.ref 657), kE P "GuillotineBlsfMinas" 1073 (.ref 676), kE P "GuillotineBafSas" 1099 (.ref 695), kE P "GuillotineBafLas" 1125 (.ref 714), kE P "GuillotineBafSlas" 1151 (.ref 733), kE P "GuillotineBafLlas" 1177 (.ref 752)] 33
noncomputable def o12v5 (P : Params) : Obj := ⟨.none, none, .fields #[.int 1 0, .int 0 0, .ref 20, .int 5 0, .int 0 0, .ref 27, .int 16 0, .int 0 0, .ref 62, .int 117 0, .int 0 0, .ref 213, .int 165 0, .int 0 0, .ref 315, .int 236 0, .int 0 0, .ref 399, .int 242 0, .int 0 0, .ref 418, .int 248 0, .int 0 0, .ref 437, .int 254 0, .int 0 0, .ref 456, .int 261 0, .int 0 0, .ref 475, .int 268 0, .int 0 0, .ref 494, .int 275 0, .int 0 0, .ref 513, .int 282 0, .int 0 0, .ref 532, .int 289 0, .int 0 0, .ref 551, .int 296 0, .int 0 0, .ref 570, .int 303 0, .int 0 0, .ref 589, .int 310 0, .int 0 0, .ref 608, .int 317 0, .int 0 0, .ref 627, .int 324 0, .int 0 0, .ref 646, .int 331 0, .int 0 0, .ref 665, .int 338 0, .int 0 0, .ref 684, .int 345 0, .int 0 0, .ref 703, .int 352 0, .int 0 0, .ref 722, .int 359 0, .int 0 0, .ref 741], #[]⟩
noncomputable def o410v1 (P : Params) : Obj := ⟨.type "type", none, .cls { name := "GuillotineBaf", bases := [.ref 391], mro := [.ref 410, .ref 391, .ref 304, .type "object"], ns := 409, qualname := "GuillotineBaf", hasDict := true, slotNames := [], subclasses := [.ref 695, .ref 714, .ref 733, .ref 752], abstract := false, collection := none, hasDel := false }, #[(some (.ref 394)), none, (some (.str "GuillotineBaf" 684)), (some (.str "GuillotineBaf" 692)), (some (.builtin "object.__new__")), (some (.bool true))]⟩
noncomputable def o429v2 (P : Params) : Obj := ⟨.type "type", none, .cls { name := "GuillotineBlsf", bases := [.ref 391], mro := [.ref 429, .ref 391, .ref 304, .type "object"], ns := 428, qualname := "GuillotineBlsf", hasDict := true, slotNames := [], subclasses := [.ref 581, .ref 600, .ref 619, .ref 638, .ref 657, .ref 676], abstract := false, collection := none, hasDel := false }, #[(some (.ref 413)), none, (some (.str "GuillotineBlsf" 710)), (some (.str "GuillotineBlsf" 718)), (some (.builtin "object.__new__")), (some (.bool true))]⟩
noncomputable def o641 (P : Params) : Obj := tO [.ref 429] 0
noncomputable def o642 (P : Params) : Obj := ⟨.type "builtin_function_or_method", none, .fields #[.builtin "type.__prepare__", .type "type"], #[]⟩
noncomputable def o643 (P : Params) : Obj := dO [kE P "__module__" 1029 (.str "rectpack.guillotine" 553), kE P "__qualname__" 1031 (.str "GuillotineBlsfMaxas" 1030), kE P "__firstlineno__" 1033 (.int 324 1032), kE P "_split" 1043 (.ref 654), kE P "__static_attributes__" 1044 (.ref 655)] 5
noncomputable def o644 (P : Params) : Obj := tO [] 0
noncomputable def o645 (P : Params) : Obj := ⟨.none, none, .fields #[.int 326 0, .int 4 0, .ref 653], #[]⟩
noncomputable def o646 (P : Params) : Obj := ⟨.type "code", none, .fields #[.str "GuillotineBlsfMaxas" 1024, .str "GuillotineBlsfMaxas" 1025, .str "/claim/cut.py" 1026, .int 324 0, .int 0 0, .int 0 0, .int 0 0, .int 0 0, .ref 644, .bool false, .int 181 0, .ref 645, .none, .none, .none, .none, .int 1027 0, .int 324 0, .str "/claim/cut.py" 1028], #[]⟩
noncomputable def o647 (P : Params) : Obj := ⟨.type "frame", none, .plain, #[(some (.ref 646)), (some (.ref 3)), (some (.ref 643)), none, (some (.str "rectpack.guillotine" 553)), none, (some (.ref 0))]⟩
noncomputable def o648 (P : Params) : Obj := tO [] 0
noncomputable def o649 (P : Params) : Obj := ⟨.none, none, .fields #[], #[]⟩
noncomputable def o650 (P : Params) : Obj := tO [.str "self" 1037, .str "section" 1038, .str "width" 1039, .str "height" 1040] 0
noncomputable def o651 (P : Params) : Obj := tO [] 0
noncomputable def o652 (P : Params) : Obj := fO .none (inAt 21 0) "GuillotineBlsfMaxas._split" 0 [] .none .none .none .none none .none .none 0
noncomputable def o653 (P : Params) : Obj := ⟨.type "code", none, .fields #[.str "_split" 1034, .str "GuillotineBlsfMaxas._split" 1035, .str "/claim/cut.py" 1036, .int 326 0, .int 4 0, .int 0 0, .int 0 0, .int 3 0, .ref 648, .bool true, .int 181 0, .ref 649, .none, .ref 650, .ref 651, .ref 652, .int 1041 0, .int 326 0, .str "/claim/cut.py" 1042], #[]⟩
noncomputable def o654 (P : Params) : Obj := fO (.type "function") (inAt 21 0) "GuillotineBlsfMaxas._split" 3 [] .none .none .none (.str "rectpack.guillotine" 553) none (.ref 653) .none 0
noncomputable def o655 (P : Params) : Obj := tO [] 0
noncomputable def o656 (P : Params) : Obj := dO [kE P "__module__" 1029 (.str "rectpack.guillotine" 553), kE P "__firstlineno__" 1033 (.int 324 1032), kE P "_split" 1043 (.ref 654), kE P "__static_attributes__" 1044 (.ref 655), kE P "__doc__" 1045 .none] 2
noncomputable def o657 (P : Params) : Obj := ⟨.type "type", none, .cls { name := "GuillotineBlsfMaxas", bases := [.ref 429], mro := [.ref 657, .ref 429, .ref 391, .ref 304, .type "object"], ns := 656, qualname := "GuillotineBlsfMaxas", hasDict := true, slotNames := [], subclasses := [], abstract := false, collection := none, hasDel := false }, #[(some (.ref 641)), none, (some (.str "GuillotineBlsfMaxas" 1022)), (some (.str "GuillotineBlsfMaxas" 1030)), (some (.builtin "object.__new__")), (some (.bool true))]⟩
noncomputable def o658 (P : Params) : Obj := ⟨.type "super", none, .fields #[.ref 657, .ref 657, .ref 657], #[]⟩
noncomputable def o659 (P : Params) : Obj := ⟨.type "builtin_function_or_method", none, .fields #[.builtin "object.__init_subclass__", .ref 657], #[]⟩
noncomputable def o660 (P : Params) : Obj := tO [.ref 429] 0
noncomputable def o661 (P : Params) : Obj := ⟨.type "builtin_function_or_method", none, .fields #[.builtin "type.__prepare__", .type "type"], #[]⟩
noncomputable def o662 (P : Params) : Obj := dO [kE P "__module__" 1055 (.str "rectpack.guillotine" 553), kE P "__qualname__" 1057 (.str "GuillotineBlsfMinas" 1056), kE P "__firstlineno__" 1059 (.int 331 1058), kE P "_split" 1069 (.ref 673), kE P "__static_attributes__" 1070 (.ref 674)] 5
noncomputable def o663 (P : Params) : Obj := tO [] 0
noncomputable def o664 (P : Params) : Obj := ⟨.none, none, .fields #[.int 333 0, .int 4 0, .ref 672], #[]⟩
noncomputable def o665 (P : Params) : Obj := ⟨.type "code", none, .fields #[.str "GuillotineBlsfMinas" 1050, .str "GuillotineBlsfMinas" 1051, .str "/claim/cut.py" 1052, .int 331 0, .int 0 0, .int 0 0, .int 0 0, .int 0 0, .ref 663, .bool false, .int 181 0, .ref 664, .none, .none, .none, .none, .int 1053 0, .int 331 0, .str "/claim/cut.py" 1054], #[]⟩
noncomputable def o666 (P : Params) : Obj := ⟨.type "frame", none, .plain, #[(some (.ref 665)), (some (.ref 3)), (some (.ref 662)), none, (some (.str "rectpack.guillotine" 553)), none, (some (.ref 0))]⟩
noncomputable def o667 (P : Params) : Obj := tO [] 0
noncomputable def o668 (P : Params) : Obj := ⟨.none, none, .fields #[], #[]⟩
noncomputable def o669 (P : Params) : Obj := tO [.str "self" 1063, .str "section" 1064, .str "width" 1065, .str "height" 1066] 0
noncomputable def o670 (P : Params) : Obj := tO [] 0
noncomputable def o671 (P : Params) : Obj := fO .none (inAt 22 0) "GuillotineBlsfMinas._split" 0 [] .none .none .none .none none .none .none 0
noncomputable def o672 (P : Params) : Obj := ⟨.type "code", none, .fields #[.str "_split" 1060, .str "GuillotineBlsfMinas._split" 1061, .str "/claim/cut.py" 1062, .int 333 0, .int 4 0, .int 0 0, .int 0 0, .int 3 0, .ref 667, .bool true, .int 181 0, .ref 668, .none, .ref 669, .ref 670, .ref 671, .int 1067 0, .int 333 0, .str "/claim/cut.py" 1068], #[]⟩
noncomputable def o673 (P : Params) : Obj := fO (.type "function") (inAt 22 0) "GuillotineBlsfMinas._split" 3 [] .none .none .none (.str "rectpack.guillotine" 553) none (.ref 672) .none 0
noncomputable def o674 (P : Params) : Obj := tO [] 0
noncomputable def o675 (P : Params) : Obj := dO [kE P "__module__" 1055 (.str "rectpack.guillotine" 553), kE P "__firstlineno__" 1059 (.int 331 1058), kE P "_split" 1069 (.ref 673), kE P "__static_attributes__" 1070 (.ref 674), kE P "__doc__" 1071 .none] 2
noncomputable def o676 (P : Params) : Obj := ⟨.type "type", none, .cls { name := "GuillotineBlsfMinas", bases := [.ref 429], mro := [.ref 676, .ref 429, .ref 391, .ref 304, .type "object"], ns := 675, qualname := "GuillotineBlsfMinas", hasDict := true, slotNames := [], subclasses := [], abstract := false, collection := none, hasDel := false }, #[(some (.ref 660)), none, (some (.str "GuillotineBlsfMinas" 1048)), (some (.str "GuillotineBlsfMinas" 1056)), (some (.builtin "object.__new__")), (some (.bool true))]⟩
noncomputable def o677 (P : Params) : Obj := ⟨.type "super", none, .fields #[.ref 676, .ref 676, .ref 676], #[]⟩
noncomputable def o678 (P : Params) : Obj := ⟨.type "builtin_function_or_method", none, .fields #[.builtin "object.__init_subclass__", .ref 676], #[]⟩
noncomputable def o679 (P : Params) : Obj := tO [.ref 410] 0
noncomputable def o680 (P : Params) : Obj := ⟨.type "builtin_function_or_method", none, .fields #[.builtin "type.__prepare__", .type "type"], #[]⟩
noncomputable def o681 (P : Params) : Obj := dO [kE P "__module__" 1081 (.str "rectpack.guillotine" 553), kE P "__qualname__" 1083 (.str "GuillotineBafSas" 1082), kE P "__firstlineno__" 1085 (.int 338 1084), kE P "_split" 1095 (.ref 692), kE P "__static_attributes__" 1096 (.ref 693)] 5
noncomputable def o682 (P : Params) : Obj := tO [] 0
noncomputable def o683 (P : Params) : Obj := ⟨.none, none, .fields #[.int 340 0, .int 4 0, .ref 691], #[]⟩
noncomputable def o684 (P : Params) : Obj := ⟨.type "code", none, .fields #[.str "GuillotineBafSas" 1076, .str "GuillotineBafSas" 1077, .str "/claim/cut.py" 1078, .int 338 0, .int 0 0, .int 0 0, .int 0 0, .int 0 0, .ref 682, .bool false, .int 181 0, .ref 683, .none, .none, .none, .none, .int 1079 0, .int 338 0, .str "/claim/cut.py" 1080], #[]⟩
noncomputable def o685 (P : Params) : Obj := ⟨.type "frame", none, .plain, #[(some (.ref 684)), (some (.ref 3)), (some (.ref 681)), none, (some (.str "rectpack.guillotine" 553)), none, (some (.ref 0))]⟩
noncomputable def o686 (P : Params) : Obj := tO [] 0
noncomputable def o687 (P : Params) : Obj := ⟨.none, none, .fields #[], #[]⟩
noncomputable def o688 (P : Params) : Obj := tO [.str "self" 1089, .str "section" 1090, .str "width" 1091, .str "height" 1092] 0
noncomputable def o689 (P : Params) : Obj := tO [] 0
noncomputable def o690 (P : Params) : Obj := fO .none (inAt 23 0) "GuillotineBafSas._split" 0 [] .none .none .none .none none .none .none 0
noncomputable def o691 (P : Params) : Obj := ⟨.type "code", none, .fields #[.str "_split" 1086, .str "GuillotineBafSas._split" 1087, .str "/claim/cut.py" 1088, .int 340 0, .int 4 0, .int 0 0, .int 0 0, .int 3 0, .ref 686, .bool true, .int 181 0, .ref 687, .none, .ref 688, .ref 689, .ref 690, .int 1093 0, .int 340 0, .str "/claim/cut.py" 1094], #[]⟩
noncomputable def o692 (P : Params) : Obj := fO (.type "function") (inAt 23 0) "GuillotineBafSas._split" 3 [] .none .none .none (.str "rectpack.guillotine" 553) none (.ref 691) .none 0
noncomputable def o693 (P : Params) : Obj := tO [] 0
noncomputable def o694 (P : Params) : Obj := dO [kE P "__module__" 1081 (.str "rectpack.guillotine" 553), kE P "__firstlineno__" 1085 (.int 338 1084), kE P "_split" 1095 (.ref 692), kE P "__static_attributes__" 1096 (.ref 693), kE P "__doc__" 1097 .none] 2
noncomputable def o695 (P : Params) : Obj := ⟨.type "type", none, .cls { name := "GuillotineBafSas", bases := [.ref 410], mro := [.ref 695, .ref 410, .ref 391, .ref 304, .type "object"], ns := 694, qualname := "GuillotineBafSas", hasDict := true, slotNames := [], subclasses := [], abstract := false, collection := none, hasDel := false }, #[(some (.ref 679)), none, (some (.str "GuillotineBafSas" 1074)), (some (.str "GuillotineBafSas" 1082)), (some (.builtin "object.__new__")), (some (.bool true))]⟩
noncomputable def o696 (P : Params) : Obj := ⟨.type "super", none, .fields #[.ref 695, .ref 695, .ref 695], #[]⟩
noncomputable def o697 (P : Params) : Obj := ⟨.type "builtin_function_or_method", none, .fields #[.builtin "object.__init_subclass__", .ref 695], #[]⟩
noncomputable def o698 (P : Params) : Obj := tO [.ref 410] 0
noncomputable def o699 (P : Params) : Obj := ⟨.type "builtin_function_or_method", none, .fields #[.builtin "type.__prepare__", .type "type"], #[]⟩
noncomputable def o700 (P : Params) : Obj := dO [kE P "__module__" 1107 (.str "rectpack.guillotine" 553), kE P "__qualname__" 1109 (.str "GuillotineBafLas" 1108), kE P "__firstlineno__" 1111 (.int 345 1110), kE P "_split" 1121 (.ref 711), kE P "__static_attributes__" 1122 (.ref 712)] 5
noncomputable def o701 (P : Params) : Obj := tO [] 0
noncomputable def o702 (P : Params) : Obj := ⟨.none, none, .fields #[.int 347 0, .int 4 0, .ref 710], #[]⟩
noncomputable def o703 (P : Params) : Obj := ⟨.type "code", none, .fields #[.str "GuillotineBafLas" 1102, .str "GuillotineBafLas" 1103, .str "/claim/cut.py" 1104, .int 345 0, .int 0 0, .int 0 0, .int 0 0, .int 0 0, .ref 701, .bool false, .int 181 0, .ref 702, .none, .none, .none, .none, .int 1105 0, .int 345 0, .str "/claim/cut.py" 1106], #[]⟩
noncomputable def o704 (P : Params) : Obj := ⟨.type "frame", none, .plain, #[(some (.ref 703)), (some (.ref 3)), (some (.ref 700)), none, (some (.str "rectpack.guillotine" 553)), none, (some (.ref 0))]⟩
noncomputable def o705 (P : Params) : Obj := tO [] 0
noncomputable def o706 (P : Params) : Obj := ⟨.none, none, .fields #[], #[]⟩
noncomputable def o707 (P : Params) : Obj := tO [.str "self" 1115, .str "section" 1116, .str "width" 1117, .str "height" 1118] 0
noncomputable def o708 (P : Params) : Obj := tO [] 0
noncomputable def o709 (P : Params) : Obj := fO .none (inAt 24 0) "GuillotineBafLas._split" 0 [] .none .none .none .none none .none .none 0
noncomputable def o710 (P : Params) : Obj := ⟨.type "code", none, .fields #[.str "_split" 1112, .str "GuillotineBafLas._split" 1113, .str "/claim/cut.py" 1114, .int 347 0, .int 4 0, .int 0 0, .int 0 0, .int 3 0, .ref 705, .bool true, .int 181 0, .ref 706, .none, .ref 707, .ref 708, .ref 709, .int 1119 0, .int 347 0, .str "/claim/cut.py" 1120], #[]⟩
noncomputable def o711 (P : Params) : Obj := fO (.type "function") (inAt 24 0) "GuillotineBafLas._split" 3 [] .none .none .none (.str "rectpack.guillotine" 553) none (.ref 710) .none 0
noncomputable def o712 (P : Params) : Obj := tO [] 0
noncomputable def o713 (P : Params) : Obj := dO [kE P "__module__" 1107 (.str "rectpack.guillotine" 553), kE P "__firstlineno__" 1111 (.int 345 1110), kE P "_split" 1121 (.ref 711), kE P "__static_attributes__" 1122 (.ref 712), kE P "__doc__" 1123 .none] 2
noncomputable def o714 (P : Params) : Obj := ⟨.type "type", none, .cls { name := "GuillotineBafLas", bases := [.ref 410], mro := [.ref 714, .ref 410, .ref 391, .ref 304, .type "object"], ns := 713, qualname := "GuillotineBafLas", hasDict := true, slotNames := [], subclasses := [], abstract := false, collection := none, hasDel := false }, #[(some (.ref 698)), none, (some (.str "GuillotineBafLas" 1100)), (some (.str "GuillotineBafLas" 1108)), (some (.builtin "object.__new__")), (some (.bool true))]⟩
noncomputable def o715 (P : Params) : Obj := ⟨.type "super", none, .fields #[.ref 714, .ref 714, .ref 714], #[]⟩
noncomputable def o716 (P : Params) : Obj := ⟨.type "builtin_function_or_method", none, .fields #[.builtin "object.__init_subclass__", .ref 714], #[]⟩
noncomputable def o717 (P : Params) : Obj := tO [.ref 410] 0
noncomputable def o718 (P : Params) : Obj := ⟨.type "builtin_function_or_method", none, .fields #[.builtin "type.__prepare__", .type "type"], #[]⟩
noncomputable def o719 (P : Params) : Obj := dO [kE P "__module__" 1133 (.str "rectpack.guillotine" 553), kE P "__qualname__" 1135 (.str "GuillotineBafSlas" 1134), kE P "__firstlineno__" 1137 (.int 352 1136), kE P "_split" 1147 (.ref 730), kE P "__static_attributes__" 1148 (.ref 731)] 5
noncomputable def o720 (P : Params) : Obj := tO [] 0
noncomputable def o721 (P : Params) : Obj := ⟨.none, none, .fields #[.int 354 0, .int 4 0, .ref 729], #[]⟩
noncomputable def o722 (P : Params) : Obj := ⟨.type "code", none, .fields #[.str "GuillotineBafSlas" 1128, .str "GuillotineBafSlas" 1129, .str "/claim/cut.py" 1130, .int 352 0, .int 0 0, .int 0 0, .int 0 0, .int 0 0, .ref 720, .bool false, .int 181 0, .ref 721, .none, .none, .none, .none, .int 1131 0, .int 352 0, .str "/claim/cut.py" 1132], #[]⟩
noncomputable def o723 (P : Params) : Obj := ⟨.type "frame", none, .plain, #[(some (.ref 722)), (some (.ref 3)), (some (.ref 719)), none, (some (.str "rectpack.guillotine" 553)), none, (some (.ref 0))]⟩
noncomputable def o724 (P : Params) : Obj := tO [] 0
noncomputable def o725 (P : Params) : Obj := ⟨.none, none, .fields #[], #[]⟩
noncomputable def o726 (P : Params) : Obj := tO [.str "self" 1141, .str "section" 1142, .str "width" 1143, .str "height" 1144] 0
noncomputable def o727 (P : Params) : Obj := tO [] 0
noncomputable def o728 (P : Params) : Obj := fO .none (inAt 25 0) "GuillotineBafSlas._split" 0 [] .none .none .none .none none .none .none 0
noncomputable def o729 (P : Params) : Obj := ⟨.type "code", none, .fields #[.str "_split" 1138, .str "GuillotineBafSlas._split" 1139, .str "/claim/cut.py" 1140, .int 354 0, .int 4 0, .int 0 0, .int 0 0, .int 3 0, .ref 724, .bool true, .int 181 0, .ref 725, .none, .ref 726, .ref 727, .ref 728, .int 1145 0, .int 354 0, .str "/claim/cut.py" 1146], #[]⟩
noncomputable def o730 (P : Params) : Obj := fO (.type "function") (inAt 25 0) "GuillotineBafSlas._split" 3 [] .none .none .none (.str "rectpack.guillotine" 553) none (.ref 729) .none 0
noncomputable def o731 (P : Params) : Obj := tO [] 0
noncomputable def o732 (P : Params) : Obj := dO [kE P "__module__" 1133 (.str "rectpack.guillotine" 553), kE P "__firstlineno__" 1137 (.int 352 1136), kE P "_split" 1147 (.ref 730), kE P "__static_attributes__" 1148 (.ref 731), kE P "__doc__" 1149 .none] 2
noncomputable def o733 (P : Params) : Obj := ⟨.type "type", none, .cls { name := "GuillotineBafSlas", bases := [.ref 410], mro := [.ref 733, .ref 410, .ref 391, .ref 304, .type "object"], ns := 732, qualname := "GuillotineBafSlas", hasDict := true, slotNames := [], subclasses := [], abstract := false, collection := none, hasDel := false }, #[(some (.ref 717)), none, (some (.str "GuillotineBafSlas" 1126)), (some (.str "GuillotineBafSlas" 1134)), (some (.builtin "object.__new__")), (some (.bool true))]⟩
noncomputable def o734 (P : Params) : Obj := ⟨.type "super", none, .fields #[.ref 733, .ref 733, .ref 733], #[]⟩
noncomputable def o735 (P : Params) : Obj := ⟨.type "builtin_function_or_method", none, .fields #[.builtin "object.__init_subclass__", .ref 733], #[]⟩
noncomputable def o736 (P : Params) : Obj := tO [.ref 410] 0
noncomputable def o737 (P : Params) : Obj := ⟨.type "builtin_function_or_method", none, .fields #[.builtin "type.__prepare__", .type "type"], #[]⟩
noncomputable def o738 (P : Params) : Obj := dO [kE P "__module__" 1159 (.str "rectpack.guillotine" 553), kE P "__qualname__" 1161 (.str "GuillotineBafLlas" 1160), kE P "__firstlineno__" 1163 (.int 359 1162), kE P "_split" 1173 (.ref 749), kE P "__static_attributes__" 1174 (.ref 750)] 5
noncomputable def o739 (P : Params) : Obj := tO [] 0
noncomputable def o740 (P : Params) : Obj := ⟨.none, none, .fields #[.int 361 0, .int 4 0, .ref 748], #[]⟩
noncomputable def o741 (P : Params) : Obj := ⟨.type "code", none, .fields #[.str "GuillotineBafLlas" 1154, .str "GuillotineBafLlas" 1155, .str "/claim/cut.py" 1156, .int 359 0, .int 0 0, .int 0 0, .int 0 0, .int 0 0, .ref 739, .bool false, .int 181 0, .ref 740, .none, .none, .none, .none, .int 1157 0, .int 359 0, .str "/claim/cut.py" 1158], #[]⟩
noncomputable def o742 (P : Params) : Obj := ⟨.type "frame", none, .plain, #[(some (.ref 741)), (some (.ref 3)), (some (.ref 738)), none, (some (.str "rectpack.guillotine" 553)), none, (some (.ref 0))]⟩
noncomputable def o743 (P : Params) : Obj := tO [] 0
noncomputable def o744 (P : Params) : Obj := ⟨.none, none, .fields #[], #[]⟩
noncomputable def o745 (P : Params) : Obj := tO [.str "self" 1167, .str "section" 1168, .str "width" 1169, .str "height" 1170] 0
noncomputable def o746 (P : Params) : Obj := tO [] 0
noncomputable def o747 (P : Params) : Obj := fO .none (inAt 26 0) "GuillotineBafLlas._split" 0 [] .none .none .none .none none .none .none 0
noncomputable def o748 (P : Params) : Obj := ⟨.type "code", none, .fields #[.str "_split" 1164, .str "GuillotineBafLlas._split" 1165, .str "/claim/cut.py" 1166, .int 361 0, .int 4 0, .int 0 0, .int 0 0, .int 3 0, .ref 743, .bool true, .int 181 0, .ref 744, .none, .ref 745, .ref 746, .ref 747, .int 1171 0, .int 361 0, .str "/claim/cut.py" 1172], #[]⟩
noncomputable def o749 (P : Params) : Obj := fO (.type "function") (inAt 26 0) "GuillotineBafLlas._split" 3 [] .none .none .none (.str "rectpack.guillotine" 553) none (.ref 748) .none 0
noncomputable def o750 (P : Params) : Obj := tO [] 0
noncomputable def o751 (P : Params) : Obj := dO [kE P "__module__" 1159 (.str "rectpack.guillotine" 553), kE P "__firstlineno__" 1163 (.int 359 1162), kE P "_split" 1173 (.ref 749), kE P "__static_attributes__" 1174 (.ref 750), kE P "__doc__" 1175 .none] 2
noncomputable def o752 (P : Params) : Obj := ⟨.type "type", none, .cls { name := "GuillotineBafLlas", bases := [.ref 410], mro := [.ref 752, .ref 410, .ref 391, .ref 304, .type "object"], ns := 751, qualname := "GuillotineBafLlas", hasDict := true, slotNames := [], subclasses := [], abstract := false, collection := none, hasDel := false }, #[(some (.ref 736)), none, (some (.str "GuillotineBafLlas" 1152)), (some (.str "GuillotineBafLlas" 1160)), (some (.builtin "object.__new__")), (some (.bool true))]⟩
noncomputable def o753 (P : Params) : Obj := ⟨.type "super", none, .fields #[.ref 752, .ref 752, .ref 752], #[]⟩
noncomputable def o754 (P : Params) : Obj := ⟨.type "builtin_function_or_method", none, .fields #[.builtin "object.__init_subclass__", .ref 752], #[]⟩
noncomputable def o3v5 (P : Params) : Obj := dO [kE P "__name__" 165 (.str "law_jb0031_01" 1230), kE P "__doc__" 166 .none, kE P "__package__" 167 .none, kE P "__loader__" 168 (.builtin "__main__.__loader__#opaque"), kE P "__spec__" 169 .none, kE P "__annotations__" 170 (.ref 6), kE P "__builtins__" 171 (.ref 4), kE P "__file__" 173 (.str "/claim/cut.py" 172), kE P "__cached__" 174 .none, kE P "_wall" 193 (.ref 21), kE P "Point" 243 (.ref 52), kE P "Rectangle" 422 (.ref 203), kE P "PackingAlgorithm" 552 (.ref 304), kE P "Guillotine" 683 (.ref 391), kE P "GuillotineBaf" 709 (.ref 410), kE P "GuillotineBlsf" 735 (.ref 429), kE P "GuillotineBssf" 761 (.ref 448), kE P "GuillotineBssfSas" 787 (.ref 467), kE P "GuillotineBssfLas" 813 (.ref 486), kE P "GuillotineBssfSlas" 839 (.ref 505), kE P "GuillotineBssfLlas" 865 (.ref 524), kE P "GuillotineBssfMaxas" 891 (.ref 543), kE P "GuillotineBssfMinas" 917 (.ref 562), kE P "GuillotineBlsfSas" 943 (.ref 581), kE P "GuillotineBlsfLas" 969 (.ref 600), kE P "GuillotineBlsfSlas" 995 (.ref 619), kE P "GuillotineBlsfLlas" 1021 (.ref 638), kE P "GuillotineBlsfMaxas" 1047 (.ref 657), kE P "GuillotineBlsfMinas" 1073 (.ref 676), kE P "GuillotineBafSas" 1099 (.ref 695), kE P "GuillotineBafLas" 1125 (.ref 714), kE P "GuillotineBafSlas" 1151 (.ref 733), kE P "GuillotineBafLlas" 1177 (.ref 752), kE P "GuillotineBafMaxas" 1203 (.ref 771), kE P "GuillotineBafMinas" 1229 (.ref 790), kE P "_law_side" 1239 (.ref 799), kE P "_law_box" 1249 (.ref 806), kE P "_law_value" 1261 (.ref 813), kE P "_law_least" 1267 (.ref 818), kE P "_law_pieces" 1273 (.ref 823), kE P "law" 1279 (.ref 828)] 41
noncomputable def o12v6 (P : Params) : Obj := ⟨.none, none, .fields #[.int 1 0, .int 0 0, .ref 20, .int 5 0, .int 0 0, .ref 27, .int 16 0, .int 0 0, .ref 62, .int 117 0, .int 0 0, .ref 213, .int 165 0, .int 0 0, .ref 315, .int 236 0, .int 0 0, .ref 399, .int 242 0, .int 0 0, .ref 418, .int 248 0, .int 0 0, .ref 437, .int 254 0, .int 0 0, .ref 456, .int 261 0, .int 0 0, .ref 475, .int 268 0, .int 0 0, .ref 494, .int 275 0, .int 0 0, .ref 513, .int 282 0, .int 0 0, .ref 532, .int 289 0, .int 0 0, .ref 551, .int 296 0, .int 0 0, .ref 570, .int 303 0, .int 0 0, .ref 589, .int 310 0, .int 0 0, .ref 608, .int 317 0, .int 0 0, .ref 627, .int 324 0, .int 0 0, .ref 646, .int 331 0, .int 0 0, .ref 665, .int 338 0, .int 0 0, .ref 684, .int 345 0, .int 0 0, .ref 703, .int 352 0, .int 0 0, .ref 722, .int 359 0, .int 0 0, .ref 741, .int 366 0, .int 0 0, .ref 760, .int 373 0, .int 0 0, .ref 779, .int 381 0, .int 0 0, .ref 798, .int 383 0, .int 0 0, .ref 805, .int 419 0, .int 0 0, .ref 812, .int 426 0, .int 0 0, .ref 817, .int 429 0, .int 0 0, .ref 822, .int 440 0, .int 0 0, .ref 827], #[]⟩
noncomputable def o410v2 (P : Params) : Obj := ⟨.type "type", none, .cls { name := "GuillotineBaf", bases := [.ref 391], mro := [.ref 410, .ref 391, .ref 304, .type "object"], ns := 409, qualname := "GuillotineBaf", hasDict := true, slotNames := [], subclasses := [.ref 695, .ref 714, .ref 733, .ref 752, .ref 771, .ref 790], abstract := false, collection := none, hasDel := false }, #[(some (.ref 394)), none, (some (.str "GuillotineBaf" 684)), (some (.str "GuillotineBaf" 692)), (some (.builtin "object.__new__")), (some (.bool true))]⟩
noncomputable def o755 (P : Params) : Obj := tO [.ref 410] 0
noncomputable def o756 (P : Params) : Obj := ⟨.type "builtin_function_or_method", none, .fields #[.builtin "type.__prepare__", .type "type"], #[]⟩
noncomputable def o757 (P : Params) : Obj := dO [kE P "__module__" 1185 (.str "rectpack.guillotine" 553), kE P "__qualname__" 1187 (.str "GuillotineBafMaxas" 1186), kE P "__firstlineno__" 1189 (.int 366 1188), kE P "_split" 1199 (.ref 768), kE P "__static_attributes__" 1200 (.ref 769)] 5
noncomputable def o758 (P : Params) : Obj := tO [] 0
noncomputable def o759 (P : Params) : Obj := ⟨.none, none, .fields #[.int 368 0, .int 4 0, .ref 767], #[]⟩
noncomputable def o760 (P : Params) : Obj := ⟨.type "code", none, .fields #[.str "GuillotineBafMaxas" 1180, .str "GuillotineBafMaxas" 1181, .str "/claim/cut.py" 1182, .int 366 0, .int 0 0, .int 0 0, .int 0 0, .int 0 0, .ref 758, .bool false, .int 181 0, .ref 759, .none, .none, .none, .none, .int 1183 0, .int 366 0, .str "/claim/cut.py" 1184], #[]⟩
noncomputable def o761 (P : Params) : Obj := ⟨.type "frame", none, .plain, #[(some (.ref 760)), (some (.ref 3)), (some (.ref 757)), none, (some (.str "rectpack.guillotine" 553)), none, (some (.ref 0))]⟩
noncomputable def o762 (P : Params) : Obj := tO [] 0
noncomputable def o763 (P : Params) : Obj := ⟨.none, none, .fields #[], #[]⟩
noncomputable def o764 (P : Params) : Obj := tO [.str "self" 1193, .str "section" 1194, .str "width" 1195, .str "height" 1196] 0
noncomputable def o765 (P : Params) : Obj := tO [] 0
noncomputable def o766 (P : Params) : Obj := fO .none (inAt 27 0) "GuillotineBafMaxas._split" 0 [] .none .none .none .none none .none .none 0
noncomputable def o767 (P : Params) : Obj := ⟨.type "code", none, .fields #[.str "_split" 1190, .str "GuillotineBafMaxas._split" 1191, .str "/claim/cut.py" 1192, .int 368 0, .int 4 0, .int 0 0, .int 0 0, .int 3 0, .ref 762, .bool true, .int 181 0, .ref 763, .none, .ref 764, .ref 765, .ref 766, .int 1197 0, .int 368 0, .str "/claim/cut.py" 1198], #[]⟩
noncomputable def o768 (P : Params) : Obj := fO (.type "function") (inAt 27 0) "GuillotineBafMaxas._split" 3 [] .none .none .none (.str "rectpack.guillotine" 553) none (.ref 767) .none 0
noncomputable def o769 (P : Params) : Obj := tO [] 0
noncomputable def o770 (P : Params) : Obj := dO [kE P "__module__" 1185 (.str "rectpack.guillotine" 553), kE P "__firstlineno__" 1189 (.int 366 1188), kE P "_split" 1199 (.ref 768), kE P "__static_attributes__" 1200 (.ref 769), kE P "__doc__" 1201 .none] 2
noncomputable def o771 (P : Params) : Obj := ⟨.type "type", none, .cls { name := "GuillotineBafMaxas", bases := [.ref 410], mro := [.ref 771, .ref 410, .ref 391, .ref 304, .type "object"], ns := 770, qualname := "GuillotineBafMaxas", hasDict := true, slotNames := [], subclasses := [], abstract := false, collection := none, hasDel := false }, #[(some (.ref 755)), none, (some (.str "GuillotineBafMaxas" 1178)), (some (.str "GuillotineBafMaxas" 1186)), (some (.builtin "object.__new__")), (some (.bool true))]⟩
noncomputable def o772 (P : Params) : Obj := ⟨.type "super", none, .fields #[.ref 771, .ref 771, .ref 771], #[]⟩
noncomputable def o773 (P : Params) : Obj := ⟨.type "builtin_function_or_method", none, .fields #[.builtin "object.__init_subclass__", .ref 771], #[]⟩
noncomputable def o774 (P : Params) : Obj := tO [.ref 410] 0
noncomputable def o775 (P : Params) : Obj := ⟨.type "builtin_function_or_method", none, .fields #[.builtin "type.__prepare__", .type "type"], #[]⟩
noncomputable def o776 (P : Params) : Obj := dO [kE P "__module__" 1211 (.str "rectpack.guillotine" 553), kE P "__qualname__" 1213 (.str "GuillotineBafMinas" 1212), kE P "__firstlineno__" 1215 (.int 373 1214), kE P "_split" 1225 (.ref 787), kE P "__static_attributes__" 1226 (.ref 788)] 5
noncomputable def o777 (P : Params) : Obj := tO [] 0
noncomputable def o778 (P : Params) : Obj := ⟨.none, none, .fields #[.int 375 0, .int 4 0, .ref 786], #[]⟩
noncomputable def o779 (P : Params) : Obj := ⟨.type "code", none, .fields #[.str "GuillotineBafMinas" 1206, .str "GuillotineBafMinas" 1207, .str "/claim/cut.py" 1208, .int 373 0, .int 0 0, .int 0 0, .int 0 0, .int 0 0, .ref 777, .bool false, .int 181 0, .ref 778, .none, .none, .none, .none, .int 1209 0, .int 373 0, .str "/claim/cut.py" 1210], #[]⟩
noncomputable def o780 (P : Params) : Obj := ⟨.type "frame", none, .plain, #[(some (.ref 779)), (some (.ref 3)), (some (.ref 776)), none, (some (.str "rectpack.guillotine" 553)), none, (some (.ref 0))]⟩
noncomputable def o781 (P : Params) : Obj := tO [] 0
noncomputable def o782 (P : Params) : Obj := ⟨.none, none, .fields #[], #[]⟩
noncomputable def o783 (P : Params) : Obj := tO [.str "self" 1219, .str "section" 1220, .str "width" 1221, .str "height" 1222] 0
noncomputable def o784 (P : Params) : Obj := tO [] 0
noncomputable def o785 (P : Params) : Obj := fO .none (inAt 28 0) "GuillotineBafMinas._split" 0 [] .none .none .none .none none .none .none 0
noncomputable def o786 (P : Params) : Obj := ⟨.type "code", none, .fields #[.str "_split" 1216, .str "GuillotineBafMinas._split" 1217, .str "/claim/cut.py" 1218, .int 375 0, .int 4 0, .int 0 0, .int 0 0, .int 3 0, .ref 781, .bool true, .int 181 0, .ref 782, .none, .ref 783, .ref 784, .ref 785, .int 1223 0, .int 375 0, .str "/claim/cut.py" 1224], #[]⟩
noncomputable def o787 (P : Params) : Obj := fO (.type "function") (inAt 28 0) "GuillotineBafMinas._split" 3 [] .none .none .none (.str "rectpack.guillotine" 553) none (.ref 786) .none 0
noncomputable def o788 (P : Params) : Obj := tO [] 0
noncomputable def o789 (P : Params) : Obj := dO [kE P "__module__" 1211 (.str "rectpack.guillotine" 553), kE P "__firstlineno__" 1215 (.int 373 1214), kE P "_split" 1225 (.ref 787), kE P "__static_attributes__" 1226 (.ref 788), kE P "__doc__" 1227 .none] 2
noncomputable def o790 (P : Params) : Obj := ⟨.type "type", none, .cls { name := "GuillotineBafMinas", bases := [.ref 410], mro := [.ref 790, .ref 410, .ref 391, .ref 304, .type "object"], ns := 789, qualname := "GuillotineBafMinas", hasDict := true, slotNames := [], subclasses := [], abstract := false, collection := none, hasDel := false }, #[(some (.ref 774)), none, (some (.str "GuillotineBafMinas" 1204)), (some (.str "GuillotineBafMinas" 1212)), (some (.builtin "object.__new__")), (some (.bool true))]⟩
noncomputable def o791 (P : Params) : Obj := ⟨.type "super", none, .fields #[.ref 790, .ref 790, .ref 790], #[]⟩
noncomputable def o792 (P : Params) : Obj := ⟨.type "builtin_function_or_method", none, .fields #[.builtin "object.__init_subclass__", .ref 790], #[]⟩
noncomputable def o793 (P : Params) : Obj := tO [] 0
noncomputable def o794 (P : Params) : Obj := ⟨.none, none, .fields #[], #[]⟩
noncomputable def o795 (P : Params) : Obj := tO [.str "number" 1235, .str "side" 1236] 0
noncomputable def o796 (P : Params) : Obj := tO [] 0
noncomputable def o797 (P : Params) : Obj := fO .none (stAt 30) "_law_side" 0 [] .none .none .none .none none .none .none 0
noncomputable def o798 (P : Params) : Obj := ⟨.type "code", none, .fields #[.str "_law_side" 1232, .str "_law_side" 1233, .str "/claim/cut.py" 1234, .int 381 0, .int 2 0, .int 0 0, .int 0 0, .int 3 0, .ref 793, .bool true, .int 181 0, .ref 794, .none, .ref 795, .ref 796, .ref 797, .int 1237 0, .int 381 0, .str "/claim/cut.py" 1238], #[]⟩
noncomputable def o799 (P : Params) : Obj := fO (.type "function") (stAt 30) "_law_side" 3 [] .none .none .none (.str "law_jb0031_01" 1230) none (.ref 798) .none 0
noncomputable def o800 (P : Params) : Obj := tO [] 0
noncomputable def o801 (P : Params) : Obj := ⟨.none, none, .fields #[], #[]⟩
noncomputable def o802 (P : Params) : Obj := tO [.str "way" 1243, .str "width" 1244, .str "height" 1245, .str "rot" 1246] 0
noncomputable def o803 (P : Params) : Obj := tO [] 0
noncomputable def o804 (P : Params) : Obj := fO .none (stAt 31) "_law_box" 0 [] .none .none .none .none none .none .none 0
noncomputable def o805 (P : Params) : Obj := ⟨.type "code", none, .fields #[.str "_law_box" 1240, .str "_law_box" 1241, .str "/claim/cut.py" 1242, .int 383 0, .int 4 0, .int 0 0, .int 0 0, .int 3 0, .ref 800, .bool true, .int 181 0, .ref 801, .none, .ref 802, .ref 803, .ref 804, .int 1247 0, .int 383 0, .str "/claim/cut.py" 1248], #[]⟩
noncomputable def o806 (P : Params) : Obj := fO (.type "function") (stAt 31) "_law_box" 3 [] .none .none .none (.str "law_jb0031_01" 1230) none (.ref 805) .none 0
noncomputable def o807 (P : Params) : Obj := tO [] 0
noncomputable def o808 (P : Params) : Obj := ⟨.none, none, .fields #[], #[]⟩
noncomputable def o809 (P : Params) : Obj := tO [.str "choice" 1253, .str "section" 1254, .str "w" 1255, .str "h" 1256, .str "wide" 1257, .str "high" 1258] 0
noncomputable def o810 (P : Params) : Obj := tO [] 0
noncomputable def o811 (P : Params) : Obj := fO .none (stAt 32) "_law_value" 0 [] .none .none .none .none none .none .none 0
noncomputable def o812 (P : Params) : Obj := ⟨.type "code", none, .fields #[.str "_law_value" 1250, .str "_law_value" 1251, .str "/claim/cut.py" 1252, .int 419 0, .int 4 0, .int 0 0, .int 0 0, .int 3 0, .ref 807, .bool true, .int 181 0, .ref 808, .none, .ref 809, .ref 810, .ref 811, .int 1259 0, .int 419 0, .str "/claim/cut.py" 1260], #[]⟩
noncomputable def o813 (P : Params) : Obj := fO (.type "function") (stAt 32) "_law_value" 3 [] .none .none .none (.str "law_jb0031_01" 1230) none (.ref 812) .none 0
noncomputable def o814 (P : Params) : Obj := tO [] 0
noncomputable def o815 (P : Params) : Obj := ⟨.none, none, .fields #[], #[]⟩
noncomputable def o816 (P : Params) : Obj := fO .none (stAt 33) "_law_least" 0 [] .none .none .none .none none .none .none 0
noncomputable def o817 (P : Params) : Obj := ⟨.type "code", none, .fields #[.str "_law_least" 1262, .str "_law_least" 1263, .str "/claim/cut.py" 1264, .int 426 0, .int 5 0, .int 0 0, .int 0 0, .int 3 0, .ref 814, .bool true, .int 181 0, .ref 815, .none, .none, .none, .ref 816, .int 1265 0, .int 426 0, .str "/claim/cut.py" 1266], #[]⟩
noncomputable def o818 (P : Params) : Obj := fO (.type "function") (stAt 33) "_law_least" 3 [] .none .none .none (.str "law_jb0031_01" 1230) none (.ref 817) .none 0
noncomputable def o819 (P : Params) : Obj := tO [] 0
noncomputable def o820 (P : Params) : Obj := ⟨.none, none, .fields #[], #[]⟩
noncomputable def o821 (P : Params) : Obj := fO .none (stAt 34) "_law_pieces" 0 [] .none .none .none .none none .none .none 0
noncomputable def o822 (P : Params) : Obj := ⟨.type "code", none, .fields #[.str "_law_pieces" 1268, .str "_law_pieces" 1269, .str "/claim/cut.py" 1270, .int 429 0, .int 4 0, .int 0 0, .int 0 0, .int 3 0, .ref 819, .bool true, .int 181 0, .ref 820, .none, .none, .none, .ref 821, .int 1271 0, .int 429 0, .str "/claim/cut.py" 1272], #[]⟩
noncomputable def o823 (P : Params) : Obj := fO (.type "function") (stAt 34) "_law_pieces" 3 [] .none .none .none (.str "law_jb0031_01" 1230) none (.ref 822) .none 0
noncomputable def o824 (P : Params) : Obj := tO [] 0
noncomputable def o825 (P : Params) : Obj := ⟨.none, none, .fields #[], #[]⟩
noncomputable def o826 (P : Params) : Obj := fO .none (stAt 35) "law" 0 [] .none .none .none .none none .none .none 0
noncomputable def o827 (P : Params) : Obj := ⟨.type "code", none, .fields #[.str "law" 1274, .str "law" 1275, .str "/claim/cut.py" 1276, .int 440 0, .int 1 0, .int 0 0, .int 0 0, .int 3 0, .ref 824, .bool true, .int 181 0, .ref 825, .none, .none, .none, .ref 826, .int 1277 0, .int 440 0, .str "/claim/cut.py" 1278], #[]⟩
noncomputable def o828 (P : Params) : Obj := fO (.type "function") (stAt 35) "law" 3 [] .none .none .none (.str "law_jb0031_01" 1230) none (.ref 827) .none 0
noncomputable def tr0 (P : Params) : BT := (.node (boot_o_0 P) (.node (boot_o_1 P) (.node (boot_o_3 P) (.node (boot_o_7 P) .nil .nil) (.node (o11 P) .nil .nil)) (.node (boot_o_5 P) (.node (boot_o_9 P) .nil .nil) (.node (o13 P) .nil .nil))) (.node (boot_o_2 P) (.node (boot_o_4 P) (.node (boot_o_8 P) .nil .nil) (.node (o12 P) .nil .nil)) (.node (boot_o_6 P) (.node (boot_o_10 P) .nil .nil) (.node (o14 P) .nil .nil))))
noncomputable def tr1 (P : Params) : BT := (.node (boot_o_0 P) (.node (boot_o_1 P) (.node (o3 P) (.node (boot_o_7 P) (.node (o15 P) (.node (o31 P) (.node (o63 P) (.node (o127 P) .nil .nil) (.node (o191 P) .nil .nil)) (.node (o95 P) (.node (o159 P) .nil .nil) .nil)) (.node (o47 P) (.node (o79 P) (.node (o143 P) .nil .nil) (.node (o207 P) .nil .nil)) (.node (o111 P) (.node (o175 P) .nil .nil) .nil))) (.node (o23 P) (.node (o39 P) (.node (o71 P) (.node (o135 P) .nil .nil) (.node (o199 P) .nil .nil)) (.node (o103 P) (.node (o167 P) .nil .nil) .nil)) (.node (o55 P) (.node (o87 P) (.node (o151 P) .nil .nil) .nil) (.node (o119 P) (.node (o183 P) .nil .nil) .nil)))) (.node (o11 P) (.node (o19 P) (.node (o35 P) (.node (o67 P) (.node (o131 P) .nil .nil) (.node (o195 P) .nil .nil)) (.node (o99 P) (.node (o163 P) .nil .nil) .nil)) (.node (o51 P) (.node (o83 P) (.node (o147 P) .nil .nil) .nil) (.node (o115 P) (.node (o179 P) .nil .nil) .nil))) (.node (o27 P) (.node (o43 P) (.node (o75 P) (.node (o139 P) .nil .nil) (.node (o203 P) .nil .nil)) (.node (o107 P) (.node (o171 P) .nil .nil) .nil)) (.node (o59 P) (.node (o91 P) (.node (o155 P) .nil .nil) .nil) (.node (o123 P) (.node (o187 P) .nil .nil) .nil))))) (.node (boot_o_5 P) (.node (boot_o_9 P) (.node (o17 P) (.node (o33 P) (.node (o65 P) (.node (o129 P) .nil .nil) (.node (o193 P) .nil .nil)) (.node (o97 P) (.node (o161 P) .nil .nil) .nil)) (.node (o49 P) (.node (o81 P) (.node (o145 P) .nil .nil) .nil) (.node (o113 P) (.node (o177 P) .nil .nil) .nil))) (.node (o25 P) (.node (o41 P) (.node (o73 P) (.node (o137 P) .nil .nil) (.node (o201 P) .nil .nil)) (.node (o105 P) (.node (o169 P) .nil .nil) .nil)) (.node (o57 P) (.node (o89 P) (.node (o153 P) .nil .nil) .nil) (.node (o121 P) (.node (o185 P) .nil .nil) .nil)))) (.node (o13 P) (.node (o21 P) (.node (o37 P) (.node (o69 P) (.node (o133 P) .nil .nil) (.node (o197 P) .nil .nil)) (.node (o101 P) (.node (o165 P) .nil .nil) .nil)) (.node (o53 P) (.node (o85 P) (.node (o149 P) .nil .nil) .nil) (.node (o117 P) (.node (o181 P) .nil .nil) .nil))) (.node (o29 P) (.node (o45 P) (.node (o77 P) (.node (o141 P) .nil .nil) (.node (o205 P) .nil .nil)) (.node (o109 P) (.node (o173 P) .nil .nil) .nil)) (.node (o61 P) (.node (o93 P) (.node (o157 P) .nil .nil) .nil) (.node (o125 P) (.node (o189 P) .nil .nil) .nil)))))) (.node (boot_o_2 P) (.node (boot_o_4 P) (.node (boot_o_8 P) (.node (o16 P) (.node (o32 P) (.node (o64 P) (.node (o128 P) .nil .nil) (.node (o192 P) .nil .nil)) (.node (o96 P) (.node (o160 P) .nil .nil) .nil)) (.node (o48 P) (.node (o80 P) (.node (o144 P) .nil .nil) .nil) (.node (o112 P) (.node (o176 P) .nil .nil) .nil))) (.node (o24 P) (.node (o40 P) (.node (o72 P) (.node (o136 P) .nil .nil) (.node (o200 P) .nil .nil)) (.node (o104 P) (.node (o168 P) .nil .nil) .nil)) (.node (o56 P) (.node (o88 P) (.node (o152 P) .nil .nil) .nil) (.node (o120 P) (.node (o184 P) .nil .nil) .nil)))) (.node (o12v1 P) (.node (o20 P) (.node (o36 P) (.node (o68 P) (.node (o132 P) .nil .nil) (.node (o196 P) .nil .nil)) (.node (o100 P) (.node (o164 P) .nil .nil) .nil)) (.node (o52 P) (.node (o84 P) (.node (o148 P) .nil .nil) .nil) (.node (o116 P) (.node (o180 P) .nil .nil) .nil))) (.node (o28 P) (.node (o44 P) (.node (o76 P) (.node (o140 P) .nil .nil) (.node (o204 P) .nil .nil)) (.node (o108 P) (.node (o172 P) .nil .nil) .nil)) (.node (o60 P) (.node (o92 P) (.node (o156 P) .nil .nil) .nil) (.node (o124 P) (.node (o188 P) .nil .nil) .nil))))) (.node (boot_o_6 P) (.node (boot_o_10 P) (.node (o18 P) (.node (o34 P) (.node (o66 P) (.node (o130 P) .nil .nil) (.node (o194 P) .nil .nil)) (.node (o98 P) (.node (o162 P) .nil .nil) .nil)) (.node (o50 P) (.node (o82 P) (.node (o146 P) .nil .nil) .nil) (.node (o114 P) (.node (o178 P) .nil .nil) .nil))) (.node (o26 P) (.node (o42 P) (.node (o74 P) (.node (o138 P) .nil .nil) (.node (o202 P) .nil .nil)) (.node (o106 P) (.node (o170 P) .nil .nil) .nil)) (.node (o58 P) (.node (o90 P) (.node (o154 P) .nil .nil) .nil) (.node (o122 P) (.node (o186 P) .nil .nil) .nil)))) (.node (o14 P) (.node (o22 P) (.node (o38 P) (.node (o70 P) (.node (o134 P) .nil .nil) (.node (o198 P) .nil .nil)) (.node (o102 P) (.node (o166 P) .nil .nil) .nil)) (.node (o54 P) (.node (o86 P) (.node (o150 P) .nil .nil) .nil) (.node (o118 P) (.node (o182 P) .nil .nil) .nil))) (.node (o30 P) (.node (o46 P) (.node (o78 P) (.node (o142 P) .nil .nil) (.node (o206 P) .nil .nil)) (.node (o110 P) (.node (o174 P) .nil .nil) .nil)) (.node (o62 P) (.node (o94 P) (.node (o158 P) .nil .nil) .nil) (.node (o126 P) (.node (o190 P) .nil .nil) .nil)))))))
noncomputable def tr2 (P : Params) : BT := (.node (boot_o_0 P) (.node (boot_o_1 P) (.node (o3v1 P) (.node (boot_o_7 P) (.node (o15 P) (.node (o31 P) (.node (o63 P) (.node (o127 P) (.node (o255 P) .nil .nil) (.node (o383 P) .nil .nil)) (.node (o191 P) (.node (o319 P) .nil .nil) .nil)) (.node (o95 P) (.node (o159 P) (.node (o287 P) .nil .nil) .nil) (.node (o223 P) (.node (o351 P) .nil .nil) .nil))) (.node (o47 P) (.node (o79 P) (.node (o143 P) (.node (o271 P) .nil .nil) (.node (o399 P) .nil .nil)) (.node (o207 P) (.node (o335 P) .nil .nil) .nil)) (.node (o111 P) (.node (o175 P) (.node (o303 P) .nil .nil) .nil) (.node (o239 P) (.node (o367 P) .nil .nil) .nil)))) (.node (o23 P) (.node (o39 P) (.node (o71 P) (.node (o135 P) (.node (o263 P) .nil .nil) (.node (o391 P) .nil .nil)) (.node (o199 P) (.node (o327 P) .nil .nil) .nil)) (.node (o103 P) (.node (o167 P) (.node (o295 P) .nil .nil) .nil) (.node (o231 P) (.node (o359 P) .nil .nil) .nil))) (.node (o55 P) (.node (o87 P) (.node (o151 P) (.node (o279 P) .nil .nil) (.node (o407 P) .nil .nil)) (.node (o215 P) (.node (o343 P) .nil .nil) .nil)) (.node (o119 P) (.node (o183 P) (.node (o311 P) .nil .nil) .nil) (.node (o247 P) (.node (o375 P) .nil .nil) .nil))))) (.node (o11 P) (.node (o19 P) (.node (o35 P) (.node (o67 P) (.node (o131 P) (.node (o259 P) .nil .nil) (.node (o387 P) .nil .nil)) (.node (o195 P) (.node (o323 P) .nil .nil) .nil)) (.node (o99 P) (.node (o163 P) (.node (o291 P) .nil .nil) .nil) (.node (o227 P) (.node (o355 P) .nil .nil) .nil))) (.node (o51 P) (.node (o83 P) (.node (o147 P) (.node (o275 P) .nil .nil) (.node (o403 P) .nil .nil)) (.node (o211 P) (.node (o339 P) .nil .nil) .nil)) (.node (o115 P) (.node (o179 P) (.node (o307 P) .nil .nil) .nil) (.node (o243 P) (.node (o371 P) .nil .nil) .nil)))) (.node (o27 P) (.node (o43 P) (.node (o75 P) (.node (o139 P) (.node (o267 P) .nil .nil) (.node (o395 P) .nil .nil)) (.node (o203 P) (.node (o331 P) .nil .nil) .nil)) (.node (o107 P) (.node (o171 P) (.node (o299 P) .nil .nil) .nil) (.node (o235 P) (.node (o363 P) .nil .nil) .nil))) (.node (o59 P) (.node (o91 P) (.node (o155 P) (.node (o283 P) .nil .nil) (.node (o411 P) .nil .nil)) (.node (o219 P) (.node (o347 P) .nil .nil) .nil)) (.node (o123 P) (.node (o187 P) (.node (o315 P) .nil .nil) .nil) (.node (o251 P) (.node (o379 P) .nil .nil) .nil)))))) (.node (boot_o_5 P) (.node (boot_o_9 P) (.node (o17 P) (.node (o33 P) (.node (o65 P) (.node (o129 P) (.node (o257 P) .nil .nil) (.node (o385 P) .nil .nil)) (.node (o193 P) (.node (o321 P) .nil .nil) .nil)) (.node (o97 P) (.node (o161 P) (.node (o289 P) .nil .nil) .nil) (.node (o225 P) (.node (o353 P) .nil .nil) .nil))) (.node (o49 P) (.node (o81 P) (.node (o145 P) (.node (o273 P) .nil .nil) (.node (o401 P) .nil .nil)) (.node (o209 P) (.node (o337 P) .nil .nil) .nil)) (.node (o113 P) (.node (o177 P) (.node (o305 P) .nil .nil) .nil) (.node (o241 P) (.node (o369 P) .nil .nil) .nil)))) (.node (o25 P) (.node (o41 P) (.node (o73 P) (.node (o137 P) (.node (o265 P) .nil .nil) (.node (o393 P) .nil .nil)) (.node (o201 P) (.node (o329 P) .nil .nil) .nil)) (.node (o105 P) (.node (o169 P) (.node (o297 P) .nil .nil) .nil) (.node (o233 P) (.node (o361 P) .nil .nil) .nil))) (.node (o57 P) (.node (o89 P) (.node (o153 P) (.node (o281 P) .nil .nil) (.node (o409 P) .nil .nil)) (.node (o217 P) (.node (o345 P) .nil .nil) .nil)) (.node (o121 P) (.node (o185 P) (.node (o313 P) .nil .nil) .nil) (.node (o249 P) (.node (o377 P) .nil .nil) .nil))))) (.node (o13 P) (.node (o21 P) (.node (o37 P) (.node (o69 P) (.node (o133 P) (.node (o261 P) .nil .nil) (.node (o389 P) .nil .nil)) (.node (o197 P) (.node (o325 P) .nil .nil) .nil)) (.node (o101 P) (.node (o165 P) (.node (o293 P) .nil .nil) .nil) (.node (o229 P) (.node (o357 P) .nil .nil) .nil))) (.node (o53 P) (.node (o85 P) (.node (o149 P) (.node (o277 P) .nil .nil) (.node (o405 P) .nil .nil)) (.node (o213 P) (.node (o341 P) .nil .nil) .nil)) (.node (o117 P) (.node (o181 P) (.node (o309 P) .nil .nil) .nil) (.node (o245 P) (.node (o373 P) .nil .nil) .nil)))) (.node (o29 P) (.node (o45 P) (.node (o77 P) (.node (o141 P) (.node (o269 P) .nil .nil) (.node (o397 P) .nil .nil)) (.node (o205 P) (.node (o333 P) .nil .nil) .nil)) (.node (o109 P) (.node (o173 P) (.node (o301 P) .nil .nil) .nil) (.node (o237 P) (.node (o365 P) .nil .nil) .nil))) (.node (o61 P) (.node (o93 P) (.node (o157 P) (.node (o285 P) .nil .nil) .nil) (.node (o221 P) (.node (o349 P) .nil .nil) .nil)) (.node (o125 P) (.node (o189 P) (.node (o317 P) .nil .nil) .nil) (.node (o253 P) (.node (o381 P) .nil .nil) .nil))))))) (.node (boot_o_2 P) (.node (boot_o_4 P) (.node (boot_o_8 P) (.node (o16 P) (.node (o32 P) (.node (o64 P) (.node (o128 P) (.node (o256 P) .nil .nil) (.node (o384 P) .nil .nil)) (.node (o192 P) (.node (o320 P) .nil .nil) .nil)) (.node (o96 P) (.node (o160 P) (.node (o288 P) .nil .nil) .nil) (.node (o224 P) (.node (o352 P) .nil .nil) .nil))) (.node (o48 P) (.node (o80 P) (.node (o144 P) (.node (o272 P) .nil .nil) (.node (o400 P) .nil .nil)) (.node (o208 P) (.node (o336 P) .nil .nil) .nil)) (.node (o112 P) (.node (o176 P) (.node (o304 P) .nil .nil) .nil) (.node (o240 P) (.node (o368 P) .nil .nil) .nil)))) (.node (o24 P) (.node (o40 P) (.node (o72 P) (.node (o136 P) (.node (o264 P) .nil .nil) (.node (o392 P) .nil .nil)) (.node (o200 P) (.node (o328 P) .nil .nil) .nil)) (.node (o104 P) (.node (o168 P) (.node (o296 P) .nil .nil) .nil) (.node (o232 P) (.node (o360 P) .nil .nil) .nil))) (.node (o56 P) (.node (o88 P) (.node (o152 P) (.node (o280 P) .nil .nil) (.node (o408 P) .nil .nil)) (.node (o216 P) (.node (o344 P) .nil .nil) .nil)) (.node (o120 P) (.node (o184 P) (.node (o312 P) .nil .nil) .nil) (.node (o248 P) (.node (o376 P) .nil .nil) .nil))))) (.node (o12v2 P) (.node (o20 P) (.node (o36 P) (.node (o68 P) (.node (o132 P) (.node (o260 P) .nil .nil) (.node (o388 P) .nil .nil)) (.node (o196 P) (.node (o324 P) .nil .nil) .nil)) (.node (o100 P) (.node (o164 P) (.node (o292 P) .nil .nil) .nil) (.node (o228 P) (.node (o356 P) .nil .nil) .nil))) (.node (o52 P) (.node (o84 P) (.node (o148 P) (.node (o276 P) .nil .nil) (.node (o404 P) .nil .nil)) (.node (o212 P) (.node (o340 P) .nil .nil) .nil)) (.node (o116 P) (.node (o180 P) (.node (o308 P) .nil .nil) .nil) (.node (o244 P) (.node (o372 P) .nil .nil) .nil)))) (.node (o28 P) (.node (o44 P) (.node (o76 P) (.node (o140 P) (.node (o268 P) .nil .nil) (.node (o396 P) .nil .nil)) (.node (o204 P) (.node (o332 P) .nil .nil) .nil)) (.node (o108 P) (.node (o172 P) (.node (o300 P) .nil .nil) .nil) (.node (o236 P) (.node (o364 P) .nil .nil) .nil))) (.node (o60 P) (.node (o92 P) (.node (o156 P) (.node (o284 P) .nil .nil) (.node (o412 P) .nil .nil)) (.node (o220 P) (.node (o348 P) .nil .nil) .nil)) (.node (o124 P) (.node (o188 P) (.node (o316 P) .nil .nil) .nil) (.node (o252 P) (.node (o380 P) .nil .nil) .nil)))))) (.node (boot_o_6 P) (.node (boot_o_10 P) (.node (o18 P) (.node (o34 P) (.node (o66 P) (.node (o130 P) (.node (o258 P) .nil .nil) (.node (o386 P) .nil .nil)) (.node (o194 P) (.node (o322 P) .nil .nil) .nil)) (.node (o98 P) (.node (o162 P) (.node (o290 P) .nil .nil) .nil) (.node (o226 P) (.node (o354 P) .nil .nil) .nil))) (.node (o50 P) (.node (o82 P) (.node (o146 P) (.node (o274 P) .nil .nil) (.node (o402 P) .nil .nil)) (.node (o210 P) (.node (o338 P) .nil .nil) .nil)) (.node (o114 P) (.node (o178 P) (.node (o306 P) .nil .nil) .nil) (.node (o242 P) (.node (o370 P) .nil .nil) .nil)))) (.node (o26 P) (.node (o42 P) (.node (o74 P) (.node (o138 P) (.node (o266 P) .nil .nil) (.node (o394 P) .nil .nil)) (.node (o202 P) (.node (o330 P) .nil .nil) .nil)) (.node (o106 P) (.node (o170 P) (.node (o298 P) .nil .nil) .nil) (.node (o234 P) (.node (o362 P) .nil .nil) .nil))) (.node (o58 P) (.node (o90 P) (.node (o154 P) (.node (o282 P) .nil .nil) (.node (o410 P) .nil .nil)) (.node (o218 P) (.node (o346 P) .nil .nil) .nil)) (.node (o122 P) (.node (o186 P) (.node (o314 P) .nil .nil) .nil) (.node (o250 P) (.node (o378 P) .nil .nil) .nil))))) (.node (o14 P) (.node (o22 P) (.node (o38 P) (.node (o70 P) (.node (o134 P) (.node (o262 P) .nil .nil) (.node (o390 P) .nil .nil)) (.node (o198 P) (.node (o326 P) .nil .nil) .nil)) (.node (o102 P) (.node (o166 P) (.node (o294 P) .nil .nil) .nil) (.node (o230 P) (.node (o358 P) .nil .nil) .nil))) (.node (o54 P) (.node (o86 P) (.node (o150 P) (.node (o278 P) .nil .nil) (.node (o406 P) .nil .nil)) (.node (o214 P) (.node (o342 P) .nil .nil) .nil)) (.node (o118 P) (.node (o182 P) (.node (o310 P) .nil .nil) .nil) (.node (o246 P) (.node (o374 P) .nil .nil) .nil)))) (.node (o30 P) (.node (o46 P) (.node (o78 P) (.node (o142 P) (.node (o270 P) .nil .nil) (.node (o398 P) .nil .nil)) (.node (o206 P) (.node (o334 P) .nil .nil) .nil)) (.node (o110 P) (.node (o174 P) (.node (o302 P) .nil .nil) .nil) (.node (o238 P) (.node (o366 P) .nil .nil) .nil))) (.node (o62 P) (.node (o94 P) (.node (o158 P) (.node (o286 P) .nil .nil) .nil) (.node (o222 P) (.node (o350 P) .nil .nil) .nil)) (.node (o126 P) (.node (o190 P) (.node (o318 P) .nil .nil) .nil) (.node (o254 P) (.node (o382 P) .nil .nil) .nil))))))))
noncomputable def tr3 (P : Params) : BT := (.node (boot_o_0 P) (.node (boot_o_1 P) (.node (o3v2 P) (.node (boot_o_7 P) (.node (o15 P) (.node (o31 P) (.node (o63 P) (.node (o127 P) (.node (o255 P) (.node (o511 P) .nil .nil) .nil) (.node (o383 P) .nil .nil)) (.node (o191 P) (.node (o319 P) .nil .nil) (.node (o447 P) .nil .nil))) (.node (o95 P) (.node (o159 P) (.node (o287 P) .nil .nil) (.node (o415 P) .nil .nil)) (.node (o223 P) (.node (o351 P) .nil .nil) (.node (o479 P) .nil .nil)))) (.node (o47 P) (.node (o79 P) (.node (o143 P) (.node (o271 P) .nil .nil) (.node (o399 P) .nil .nil)) (.node (o207 P) (.node (o335 P) .nil .nil) (.node (o463 P) .nil .nil))) (.node (o111 P) (.node (o175 P) (.node (o303 P) .nil .nil) (.node (o431 P) .nil .nil)) (.node (o239 P) (.node (o367 P) .nil .nil) (.node (o495 P) .nil .nil))))) (.node (o23 P) (.node (o39 P) (.node (o71 P) (.node (o135 P) (.node (o263 P) (.node (o519 P) .nil .nil) .nil) (.node (o391v1 P) .nil .nil)) (.node (o199 P) (.node (o327 P) .nil .nil) (.node (o455 P) .nil .nil))) (.node (o103 P) (.node (o167 P) (.node (o295 P) .nil .nil) (.node (o423 P) .nil .nil)) (.node (o231 P) (.node (o359 P) .nil .nil) (.node (o487 P) .nil .nil)))) (.node (o55 P) (.node (o87 P) (.node (o151 P) (.node (o279 P) .nil .nil) (.node (o407 P) .nil .nil)) (.node (o215 P) (.node (o343 P) .nil .nil) (.node (o471 P) .nil .nil))) (.node (o119 P) (.node (o183 P) (.node (o311 P) .nil .nil) (.node (o439 P) .nil .nil)) (.node (o247 P) (.node (o375 P) .nil .nil) (.node (o503 P) .nil .nil)))))) (.node (o11 P) (.node (o19 P) (.node (o35 P) (.node (o67 P) (.node (o131 P) (.node (o259 P) (.node (o515 P) .nil .nil) .nil) (.node (o387 P) .nil .nil)) (.node (o195 P) (.node (o323 P) .nil .nil) (.node (o451 P) .nil .nil))) (.node (o99 P) (.node (o163 P) (.node (o291 P) .nil .nil) (.node (o419 P) .nil .nil)) (.node (o227 P) (.node (o355 P) .nil .nil) (.node (o483 P) .nil .nil)))) (.node (o51 P) (.node (o83 P) (.node (o147 P) (.node (o275 P) .nil .nil) (.node (o403 P) .nil .nil)) (.node (o211 P) (.node (o339 P) .nil .nil) (.node (o467 P) .nil .nil))) (.node (o115 P) (.node (o179 P) (.node (o307 P) .nil .nil) (.node (o435 P) .nil .nil)) (.node (o243 P) (.node (o371 P) .nil .nil) (.node (o499 P) .nil .nil))))) (.node (o27 P) (.node (o43 P) (.node (o75 P) (.node (o139 P) (.node (o267 P) (.node (o523 P) .nil .nil) .nil) (.node (o395 P) .nil .nil)) (.node (o203 P) (.node (o331 P) .nil .nil) (.node (o459 P) .nil .nil))) (.node (o107 P) (.node (o171 P) (.node (o299 P) .nil .nil) (.node (o427 P) .nil .nil)) (.node (o235 P) (.node (o363 P) .nil .nil) (.node (o491 P) .nil .nil)))) (.node (o59 P) (.node (o91 P) (.node (o155 P) (.node (o283 P) .nil .nil) (.node (o411 P) .nil .nil)) (.node (o219 P) (.node (o347 P) .nil .nil) (.node (o475 P) .nil .nil))) (.node (o123 P) (.node (o187 P) (.node (o315 P) .nil .nil) (.node (o443 P) .nil .nil)) (.node (o251 P) (.node (o379 P) .nil .nil) (.node (o507 P) .nil .nil))))))) (.node (boot_o_5 P) (.node (boot_o_9 P) (.node (o17 P) (.node (o33 P) (.node (o65 P) (.node (o129 P) (.node (o257 P) (.node (o513 P) .nil .nil) .nil) (.node (o385 P) .nil .nil)) (.node (o193 P) (.node (o321 P) .nil .nil) (.node (o449 P) .nil .nil))) (.node (o97 P) (.node (o161 P) (.node (o289 P) .nil .nil) (.node (o417 P) .nil .nil)) (.node (o225 P) (.node (o353 P) .nil .nil) (.node (o481 P) .nil .nil)))) (.node (o49 P) (.node (o81 P) (.node (o145 P) (.node (o273 P) .nil .nil) (.node (o401 P) .nil .nil)) (.node (o209 P) (.node (o337 P) .nil .nil) (.node (o465 P) .nil .nil))) (.node (o113 P) (.node (o177 P) (.node (o305 P) .nil .nil) (.node (o433 P) .nil .nil)) (.node (o241 P) (.node (o369 P) .nil .nil) (.node (o497 P) .nil .nil))))) (.node (o25 P) (.node (o41 P) (.node (o73 P) (.node (o137 P) (.node (o265 P) (.node (o521 P) .nil .nil) .nil) (.node (o393 P) .nil .nil)) (.node (o201 P) (.node (o329 P) .nil .nil) (.node (o457 P) .nil .nil))) (.node (o105 P) (.node (o169 P) (.node (o297 P) .nil .nil) (.node (o425 P) .nil .nil)) (.node (o233 P) (.node (o361 P) .nil .nil) (.node (o489 P) .nil .nil)))) (.node (o57 P) (.node (o89 P) (.node (o153 P) (.node (o281 P) .nil .nil) (.node (o409 P) .nil .nil)) (.node (o217 P) (.node (o345 P) .nil .nil) (.node (o473 P) .nil .nil))) (.node (o121 P) (.node (o185 P) (.node (o313 P) .nil .nil) (.node (o441 P) .nil .nil)) (.node (o249 P) (.node (o377 P) .nil .nil) (.node (o505 P) .nil .nil)))))) (.node (o13 P) (.node (o21 P) (.node (o37 P) (.node (o69 P) (.node (o133 P) (.node (o261 P) (.node (o517 P) .nil .nil) .nil) (.node (o389 P) .nil .nil)) (.node (o197 P) (.node (o325 P) .nil .nil) (.node (o453 P) .nil .nil))) (.node (o101 P) (.node (o165 P) (.node (o293 P) .nil .nil) (.node (o421 P) .nil .nil)) (.node (o229 P) (.node (o357 P) .nil .nil) (.node (o485 P) .nil .nil)))) (.node (o53 P) (.node (o85 P) (.node (o149 P) (.node (o277 P) .nil .nil) (.node (o405 P) .nil .nil)) (.node (o213 P) (.node (o341 P) .nil .nil) (.node (o469 P) .nil .nil))) (.node (o117 P) (.node (o181 P) (.node (o309 P) .nil .nil) (.node (o437 P) .nil .nil)) (.node (o245 P) (.node (o373 P) .nil .nil) (.node (o501 P) .nil .nil))))) (.node (o29 P) (.node (o45 P) (.node (o77 P) (.node (o141 P) (.node (o269 P) (.node (o525 P) .nil .nil) .nil) (.node (o397 P) .nil .nil)) (.node (o205 P) (.node (o333 P) .nil .nil) (.node (o461 P) .nil .nil))) (.node (o109 P) (.node (o173 P) (.node (o301 P) .nil .nil) (.node (o429 P) .nil .nil)) (.node (o237 P) (.node (o365 P) .nil .nil) (.node (o493 P) .nil .nil)))) (.node (o61 P) (.node (o93 P) (.node (o157 P) (.node (o285 P) .nil .nil) (.node (o413 P) .nil .nil)) (.node (o221 P) (.node (o349 P) .nil .nil) (.node (o477 P) .nil .nil))) (.node (o125 P) (.node (o189 P) (.node (o317 P) .nil .nil) (.node (o445 P) .nil .nil)) (.node (o253 P) (.node (o381 P) .nil .nil) (.node (o509 P) .nil .nil)))))))) (.node (boot_o_2 P) (.node (boot_o_4 P) (.node (boot_o_8 P) (.node (o16 P) (.node (o32 P) (.node (o64 P) (.node (o128 P) (.node (o256 P) (.node (o512 P) .nil .nil) .nil) (.node (o384 P) .nil .nil)) (.node (o192 P) (.node (o320 P) .nil .nil) (.node (o448 P) .nil .nil))) (.node (o96 P) (.node (o160 P) (.node (o288 P) .nil .nil) (.node (o416 P) .nil .nil)) (.node (o224 P) (.node (o352 P) .nil .nil) (.node (o480 P) .nil .nil)))) (.node (o48 P) (.node (o80 P) (.node (o144 P) (.node (o272 P) .nil .nil) (.node (o400 P) .nil .nil)) (.node (o208 P) (.node (o336 P) .nil .nil) (.node (o464 P) .nil .nil))) (.node (o112 P) (.node (o176 P) (.node (o304 P) .nil .nil) (.node (o432 P) .nil .nil)) (.node (o240 P) (.node (o368 P) .nil .nil) (.node (o496 P) .nil .nil))))) (.node (o24 P) (.node (o40 P) (.node (o72 P) (.node (o136 P) (.node (o264 P) (.node (o520 P) .nil .nil) .nil) (.node (o392 P) .nil .nil)) (.node (o200 P) (.node (o328 P) .nil .nil) (.node (o456 P) .nil .nil))) (.node (o104 P) (.node (o168 P) (.node (o296 P) .nil .nil) (.node (o424 P) .nil .nil)) (.node (o232 P) (.node (o360 P) .nil .nil) (.node (o488 P) .nil .nil)))) (.node (o56 P) (.node (o88 P) (.node (o152 P) (.node (o280 P) .nil .nil) (.node (o408 P) .nil .nil)) (.node (o216 P) (.node (o344 P) .nil .nil) (.node (o472 P) .nil .nil))) (.node (o120 P) (.node (o184 P) (.node (o312 P) .nil .nil) (.node (o440 P) .nil .nil)) (.node (o248 P) (.node (o376 P) .nil .nil) (.node (o504 P) .nil .nil)))))) (.node (o12v3 P) (.node (o20 P) (.node (o36 P) (.node (o68 P) (.node (o132 P) (.node (o260 P) (.node (o516 P) .nil .nil) .nil) (.node (o388 P) .nil .nil)) (.node (o196 P) (.node (o324 P) .nil .nil) (.node (o452 P) .nil .nil))) (.node (o100 P) (.node (o164 P) (.node (o292 P) .nil .nil) (.node (o420 P) .nil .nil)) (.node (o228 P) (.node (o356 P) .nil .nil) (.node (o484 P) .nil .nil)))) (.node (o52 P) (.node (o84 P) (.node (o148 P) (.node (o276 P) .nil .nil) (.node (o404 P) .nil .nil)) (.node (o212 P) (.node (o340 P) .nil .nil) (.node (o468 P) .nil .nil))) (.node (o116 P) (.node (o180 P) (.node (o308 P) .nil .nil) (.node (o436 P) .nil .nil)) (.node (o244 P) (.node (o372 P) .nil .nil) (.node (o500 P) .nil .nil))))) (.node (o28 P) (.node (o44 P) (.node (o76 P) (.node (o140 P) (.node (o268 P) (.node (o524 P) .nil .nil) .nil) (.node (o396 P) .nil .nil)) (.node (o204 P) (.node (o332 P) .nil .nil) (.node (o460 P) .nil .nil))) (.node (o108 P) (.node (o172 P) (.node (o300 P) .nil .nil) (.node (o428 P) .nil .nil)) (.node (o236 P) (.node (o364 P) .nil .nil) (.node (o492 P) .nil .nil)))) (.node (o60 P) (.node (o92 P) (.node (o156 P) (.node (o284 P) .nil .nil) (.node (o412 P) .nil .nil)) (.node (o220 P) (.node (o348 P) .nil .nil) (.node (o476 P) .nil .nil))) (.node (o124 P) (.node (o188 P) (.node (o316 P) .nil .nil) (.node (o444 P) .nil .nil)) (.node (o252 P) (.node (o380 P) .nil .nil) (.node (o508 P) .nil .nil))))))) (.node (boot_o_6 P) (.node (boot_o_10 P) (.node (o18 P) (.node (o34 P) (.node (o66 P) (.node (o130 P) (.node (o258 P) (.node (o514 P) .nil .nil) .nil) (.node (o386 P) .nil .nil)) (.node (o194 P) (.node (o322 P) .nil .nil) (.node (o450 P) .nil .nil))) (.node (o98 P) (.node (o162 P) (.node (o290 P) .nil .nil) (.node (o418 P) .nil .nil)) (.node (o226 P) (.node (o354 P) .nil .nil) (.node (o482 P) .nil .nil)))) (.node (o50 P) (.node (o82 P) (.node (o146 P) (.node (o274 P) .nil .nil) (.node (o402 P) .nil .nil)) (.node (o210 P) (.node (o338 P) .nil .nil) (.node (o466 P) .nil .nil))) (.node (o114 P) (.node (o178 P) (.node (o306 P) .nil .nil) (.node (o434 P) .nil .nil)) (.node (o242 P) (.node (o370 P) .nil .nil) (.node (o498 P) .nil .nil))))) (.node (o26 P) (.node (o42 P) (.node (o74 P) (.node (o138 P) (.node (o266 P) (.node (o522 P) .nil .nil) .nil) (.node (o394 P) .nil .nil)) (.node (o202 P) (.node (o330 P) .nil .nil) (.node (o458 P) .nil .nil))) (.node (o106 P) (.node (o170 P) (.node (o298 P) .nil .nil) (.node (o426 P) .nil .nil)) (.node (o234 P) (.node (o362 P) .nil .nil) (.node (o490 P) .nil .nil)))) (.node (o58 P) (.node (o90 P) (.node (o154 P) (.node (o282 P) .nil .nil) (.node (o410 P) .nil .nil)) (.node (o218 P) (.node (o346 P) .nil .nil) (.node (o474 P) .nil .nil))) (.node (o122 P) (.node (o186 P) (.node (o314 P) .nil .nil) (.node (o442 P) .nil .nil)) (.node (o250 P) (.node (o378 P) .nil .nil) (.node (o506 P) .nil .nil)))))) (.node (o14 P) (.node (o22 P) (.node (o38 P) (.node (o70 P) (.node (o134 P) (.node (o262 P) (.node (o518 P) .nil .nil) .nil) (.node (o390 P) .nil .nil)) (.node (o198 P) (.node (o326 P) .nil .nil) (.node (o454 P) .nil .nil))) (.node (o102 P) (.node (o166 P) (.node (o294 P) .nil .nil) (.node (o422 P) .nil .nil)) (.node (o230 P) (.node (o358 P) .nil .nil) (.node (o486 P) .nil .nil)))) (.node (o54 P) (.node (o86 P) (.node (o150 P) (.node (o278 P) .nil .nil) (.node (o406 P) .nil .nil)) (.node (o214 P) (.node (o342 P) .nil .nil) (.node (o470 P) .nil .nil))) (.node (o118 P) (.node (o182 P) (.node (o310 P) .nil .nil) (.node (o438 P) .nil .nil)) (.node (o246 P) (.node (o374 P) .nil .nil) (.node (o502 P) .nil .nil))))) (.node (o30 P) (.node (o46 P) (.node (o78 P) (.node (o142 P) (.node (o270 P) (.node (o526 P) .nil .nil) .nil) (.node (o398 P) .nil .nil)) (.node (o206 P) (.node (o334 P) .nil .nil) (.node (o462 P) .nil .nil))) (.node (o110 P) (.node (o174 P) (.node (o302 P) .nil .nil) (.node (o430 P) .nil .nil)) (.node (o238 P) (.node (o366 P) .nil .nil) (.node (o494 P) .nil .nil)))) (.node (o62 P) (.node (o94 P) (.node (o158 P) (.node (o286 P) .nil .nil) (.node (o414 P) .nil .nil)) (.node (o222 P) (.node (o350 P) .nil .nil) (.node (o478 P) .nil .nil))) (.node (o126 P) (.node (o190 P) (.node (o318 P) .nil .nil) (.node (o446 P) .nil .nil)) (.node (o254 P) (.node (o382 P) .nil .nil) (.node (o510 P) .nil .nil)))))))))
noncomputable def tr4 (P : Params) : BT := (.node (boot_o_0 P) (.node (boot_o_1 P) (.node (o3v3 P) (.node (boot_o_7 P) (.node (o15 P) (.node (o31 P) (.node (o63 P) (.node (o127 P) (.node (o255 P) (.node (o511 P) .nil .nil) .nil) (.node (o383 P) (.node (o639 P) .nil .nil) .nil)) (.node (o191 P) (.node (o319 P) (.node (o575 P) .nil .nil) .nil) (.node (o447 P) .nil .nil))) (.node (o95 P) (.node (o159 P) (.node (o287 P) (.node (o543 P) .nil .nil) .nil) (.node (o415 P) .nil .nil)) (.node (o223 P) (.node (o351 P) (.node (o607 P) .nil .nil) .nil) (.node (o479 P) .nil .nil)))) (.node (o47 P) (.node (o79 P) (.node (o143 P) (.node (o271 P) (.node (o527 P) .nil .nil) .nil) (.node (o399 P) .nil .nil)) (.node (o207 P) (.node (o335 P) (.node (o591 P) .nil .nil) .nil) (.node (o463 P) .nil .nil))) (.node (o111 P) (.node (o175 P) (.node (o303 P) (.node (o559 P) .nil .nil) .nil) (.node (o431 P) .nil .nil)) (.node (o239 P) (.node (o367 P) (.node (o623 P) .nil .nil) .nil) (.node (o495 P) .nil .nil))))) (.node (o23 P) (.node (o39 P) (.node (o71 P) (.node (o135 P) (.node (o263 P) (.node (o519 P) .nil .nil) .nil) (.node (o391v1 P) .nil .nil)) (.node (o199 P) (.node (o327 P) (.node (o583 P) .nil .nil) .nil) (.node (o455 P) .nil .nil))) (.node (o103 P) (.node (o167 P) (.node (o295 P) (.node (o551 P) .nil .nil) .nil) (.node (o423 P) .nil .nil)) (.node (o231 P) (.node (o359 P) (.node (o615 P) .nil .nil) .nil) (.node (o487 P) .nil .nil)))) (.node (o55 P) (.node (o87 P) (.node (o151 P) (.node (o279 P) (.node (o535 P) .nil .nil) .nil) (.node (o407 P) .nil .nil)) (.node (o215 P) (.node (o343 P) (.node (o599 P) .nil .nil) .nil) (.node (o471 P) .nil .nil))) (.node (o119 P) (.node (o183 P) (.node (o311 P) (.node (o567 P) .nil .nil) .nil) (.node (o439 P) .nil .nil)) (.node (o247 P) (.node (o375 P) (.node (o631 P) .nil .nil) .nil) (.node (o503 P) .nil .nil)))))) (.node (o11 P) (.node (o19 P) (.node (o35 P) (.node (o67 P) (.node (o131 P) (.node (o259 P) (.node (o515 P) .nil .nil) .nil) (.node (o387 P) .nil .nil)) (.node (o195 P) (.node (o323 P) (.node (o579 P) .nil .nil) .nil) (.node (o451 P) .nil .nil))) (.node (o99 P) (.node (o163 P) (.node (o291 P) (.node (o547 P) .nil .nil) .nil) (.node (o419 P) .nil .nil)) (.node (o227 P) (.node (o355 P) (.node (o611 P) .nil .nil) .nil) (.node (o483 P) .nil .nil)))) (.node (o51 P) (.node (o83 P) (.node (o147 P) (.node (o275 P) (.node (o531 P) .nil .nil) .nil) (.node (o403 P) .nil .nil)) (.node (o211 P) (.node (o339 P) (.node (o595 P) .nil .nil) .nil) (.node (o467 P) .nil .nil))) (.node (o115 P) (.node (o179 P) (.node (o307 P) (.node (o563 P) .nil .nil) .nil) (.node (o435 P) .nil .nil)) (.node (o243 P) (.node (o371 P) (.node (o627 P) .nil .nil) .nil) (.node (o499 P) .nil .nil))))) (.node (o27 P) (.node (o43 P) (.node (o75 P) (.node (o139 P) (.node (o267 P) (.node (o523 P) .nil .nil) .nil) (.node (o395 P) .nil .nil)) (.node (o203 P) (.node (o331 P) (.node (o587 P) .nil .nil) .nil) (.node (o459 P) .nil .nil))) (.node (o107 P) (.node (o171 P) (.node (o299 P) (.node (o555 P) .nil .nil) .nil) (.node (o427 P) .nil .nil)) (.node (o235 P) (.node (o363 P) (.node (o619 P) .nil .nil) .nil) (.node (o491 P) .nil .nil)))) (.node (o59 P) (.node (o91 P) (.node (o155 P) (.node (o283 P) (.node (o539 P) .nil .nil) .nil) (.node (o411 P) .nil .nil)) (.node (o219 P) (.node (o347 P) (.node (o603 P) .nil .nil) .nil) (.node (o475 P) .nil .nil))) (.node (o123 P) (.node (o187 P) (.node (o315 P) (.node (o571 P) .nil .nil) .nil) (.node (o443 P) .nil .nil)) (.node (o251 P) (.node (o379 P) (.node (o635 P) .nil .nil) .nil) (.node (o507 P) .nil .nil))))))) (.node (boot_o_5 P) (.node (boot_o_9 P) (.node (o17 P) (.node (o33 P) (.node (o65 P) (.node (o129 P) (.node (o257 P) (.node (o513 P) .nil .nil) .nil) (.node (o385 P) .nil .nil)) (.node (o193 P) (.node (o321 P) (.node (o577 P) .nil .nil) .nil) (.node (o449 P) .nil .nil))) (.node (o97 P) (.node (o161 P) (.node (o289 P) (.node (o545 P) .nil .nil) .nil) (.node (o417 P) .nil .nil)) (.node (o225 P) (.node (o353 P) (.node (o609 P) .nil .nil) .nil) (.node (o481 P) .nil .nil)))) (.node (o49 P) (.node (o81 P) (.node (o145 P) (.node (o273 P) (.node (o529 P) .nil .nil) .nil) (.node (o401 P) .nil .nil)) (.node (o209 P) (.node (o337 P) (.node (o593 P) .nil .nil) .nil) (.node (o465 P) .nil .nil))) (.node (o113 P) (.node (o177 P) (.node (o305 P) (.node (o561 P) .nil .nil) .nil) (.node (o433 P) .nil .nil)) (.node (o241 P) (.node (o369 P) (.node (o625 P) .nil .nil) .nil) (.node (o497 P) .nil .nil))))) (.node (o25 P) (.node (o41 P) (.node (o73 P) (.node (o137 P) (.node (o265 P) (.node (o521 P) .nil .nil) .nil) (.node (o393 P) .nil .nil)) (.node (o201 P) (.node (o329 P) (.node (o585 P) .nil .nil) .nil) (.node (o457 P) .nil .nil))) (.node (o105 P) (.node (o169 P) (.node (o297 P) (.node (o553 P) .nil .nil) .nil) (.node (o425 P) .nil .nil)) (.node (o233 P) (.node (o361 P) (.node (o617 P) .nil .nil) .nil) (.node (o489 P) .nil .nil)))) (.node (o57 P) (.node (o89 P) (.node (o153 P) (.node (o281 P) (.node (o537 P) .nil .nil) .nil) (.node (o409 P) .nil .nil)) (.node (o217 P) (.node (o345 P) (.node (o601 P) .nil .nil) .nil) (.node (o473 P) .nil .nil))) (.node (o121 P) (.node (o185 P) (.node (o313 P) (.node (o569 P) .nil .nil) .nil) (.node (o441 P) .nil .nil)) (.node (o249 P) (.node (o377 P) (.node (o633 P) .nil .nil) .nil) (.node (o505 P) .nil .nil)))))) (.node (o13 P) (.node (o21 P) (.node (o37 P) (.node (o69 P) (.node (o133 P) (.node (o261 P) (.node (o517 P) .nil .nil) .nil) (.node (o389 P) .nil .nil)) (.node (o197 P) (.node (o325 P) (.node (o581 P) .nil .nil) .nil) (.node (o453 P) .nil .nil))) (.node (o101 P) (.node (o165 P) (.node (o293 P) (.node (o549 P) .nil .nil) .nil) (.node (o421 P) .nil .nil)) (.node (o229 P) (.node (o357 P) (.node (o613 P) .nil .nil) .nil) (.node (o485 P) .nil .nil)))) (.node (o53 P) (.node (o85 P) (.node (o149 P) (.node (o277 P) (.node (o533 P) .nil .nil) .nil) (.node (o405 P) .nil .nil)) (.node (o213 P) (.node (o341 P) (.node (o597 P) .nil .nil) .nil) (.node (o469 P) .nil .nil))) (.node (o117 P) (.node (o181 P) (.node (o309 P) (.node (o565 P) .nil .nil) .nil) (.node (o437 P) .nil .nil)) (.node (o245 P) (.node (o373 P) (.node (o629 P) .nil .nil) .nil) (.node (o501 P) .nil .nil))))) (.node (o29 P) (.node (o45 P) (.node (o77 P) (.node (o141 P) (.node (o269 P) (.node (o525 P) .nil .nil) .nil) (.node (o397 P) .nil .nil)) (.node (o205 P) (.node (o333 P) (.node (o589 P) .nil .nil) .nil) (.node (o461 P) .nil .nil))) (.node (o109 P) (.node (o173 P) (.node (o301 P) (.node (o557 P) .nil .nil) .nil) (.node (o429v1 P) .nil .nil)) (.node (o237 P) (.node (o365 P) (.node (o621 P) .nil .nil) .nil) (.node (o493 P) .nil .nil)))) (.node (o61 P) (.node (o93 P) (.node (o157 P) (.node (o285 P) (.node (o541 P) .nil .nil) .nil) (.node (o413 P) .nil .nil)) (.node (o221 P) (.node (o349 P) (.node (o605 P) .nil .nil) .nil) (.node (o477 P) .nil .nil))) (.node (o125 P) (.node (o189 P) (.node (o317 P) (.node (o573 P) .nil .nil) .nil) (.node (o445 P) .nil .nil)) (.node (o253 P) (.node (o381 P) (.node (o637 P) .nil .nil) .nil) (.node (o509 P) .nil .nil)))))))) (.node (boot_o_2 P) (.node (boot_o_4 P) (.node (boot_o_8 P) (.node (o16 P) (.node (o32 P) (.node (o64 P) (.node (o128 P) (.node (o256 P) (.node (o512 P) .nil .nil) .nil) (.node (o384 P) (.node (o640 P) .nil .nil) .nil)) (.node (o192 P) (.node (o320 P) (.node (o576 P) .nil .nil) .nil) (.node (o448v1 P) .nil .nil))) (.node (o96 P) (.node (o160 P) (.node (o288 P) (.node (o544 P) .nil .nil) .nil) (.node (o416 P) .nil .nil)) (.node (o224 P) (.node (o352 P) (.node (o608 P) .nil .nil) .nil) (.node (o480 P) .nil .nil)))) (.node (o48 P) (.node (o80 P) (.node (o144 P) (.node (o272 P) (.node (o528 P) .nil .nil) .nil) (.node (o400 P) .nil .nil)) (.node (o208 P) (.node (o336 P) (.node (o592 P) .nil .nil) .nil) (.node (o464 P) .nil .nil))) (.node (o112 P) (.node (o176 P) (.node (o304 P) (.node (o560 P) .nil .nil) .nil) (.node (o432 P) .nil .nil)) (.node (o240 P) (.node (o368 P) (.node (o624 P) .nil .nil) .nil) (.node (o496 P) .nil .nil))))) (.node (o24 P) (.node (o40 P) (.node (o72 P) (.node (o136 P) (.node (o264 P) (.node (o520 P) .nil .nil) .nil) (.node (o392 P) .nil .nil)) (.node (o200 P) (.node (o328 P) (.node (o584 P) .nil .nil) .nil) (.node (o456 P) .nil .nil))) (.node (o104 P) (.node (o168 P) (.node (o296 P) (.node (o552 P) .nil .nil) .nil) (.node (o424 P) .nil .nil)) (.node (o232 P) (.node (o360 P) (.node (o616 P) .nil .nil) .nil) (.node (o488 P) .nil .nil)))) (.node (o56 P) (.node (o88 P) (.node (o152 P) (.node (o280 P) (.node (o536 P) .nil .nil) .nil) (.node (o408 P) .nil .nil)) (.node (o216 P) (.node (o344 P) (.node (o600 P) .nil .nil) .nil) (.node (o472 P) .nil .nil))) (.node (o120 P) (.node (o184 P) (.node (o312 P) (.node (o568 P) .nil .nil) .nil) (.node (o440 P) .nil .nil)) (.node (o248 P) (.node (o376 P) (.node (o632 P) .nil .nil) .nil) (.node (o504 P) .nil .nil)))))) (.node (o12v4 P) (.node (o20 P) (.node (o36 P) (.node (o68 P) (.node (o132 P) (.node (o260 P) (.node (o516 P) .nil .nil) .nil) (.node (o388 P) .nil .nil)) (.node (o196 P) (.node (o324 P) (.node (o580 P) .nil .nil) .nil) (.node (o452 P) .nil .nil))) (.node (o100 P) (.node (o164 P) (.node (o292 P) (.node (o548 P) .nil .nil) .nil) (.node (o420 P) .nil .nil)) (.node (o228 P) (.node (o356 P) (.node (o612 P) .nil .nil) .nil) (.node (o484 P) .nil .nil)))) (.node (o52 P) (.node (o84 P) (.node (o148 P) (.node (o276 P) (.node (o532 P) .nil .nil) .nil) (.node (o404 P) .nil .nil)) (.node (o212 P) (.node (o340 P) (.node (o596 P) .nil .nil) .nil) (.node (o468 P) .nil .nil))) (.node (o116 P) (.node (o180 P) (.node (o308 P) (.node (o564 P) .nil .nil) .nil) (.node (o436 P) .nil .nil)) (.node (o244 P) (.node (o372 P) (.node (o628 P) .nil .nil) .nil) (.node (o500 P) .nil .nil))))) (.node (o28 P) (.node (o44 P) (.node (o76 P) (.node (o140 P) (.node (o268 P) (.node (o524 P) .nil .nil) .nil) (.node (o396 P) .nil .nil)) (.node (o204 P) (.node (o332 P) (.node (o588 P) .nil .nil) .nil) (.node (o460 P) .nil .nil))) (.node (o108 P) (.node (o172 P) (.node (o300 P) (.node (o556 P) .nil .nil) .nil) (.node (o428 P) .nil .nil)) (.node (o236 P) (.node (o364 P) (.node (o620 P) .nil .nil) .nil) (.node (o492 P) .nil .nil)))) (.node (o60 P) (.node (o92 P) (.node (o156 P) (.node (o284 P) (.node (o540 P) .nil .nil) .nil) (.node (o412 P) .nil .nil)) (.node (o220 P) (.node (o348 P) (.node (o604 P) .nil .nil) .nil) (.node (o476 P) .nil .nil))) (.node (o124 P) (.node (o188 P) (.node (o316 P) (.node (o572 P) .nil .nil) .nil) (.node (o444 P) .nil .nil)) (.node (o252 P) (.node (o380 P) (.node (o636 P) .nil .nil) .nil) (.node (o508 P) .nil .nil))))))) (.node (boot_o_6 P) (.node (boot_o_10 P) (.node (o18 P) (.node (o34 P) (.node (o66 P) (.node (o130 P) (.node (o258 P) (.node (o514 P) .nil .nil) .nil) (.node (o386 P) .nil .nil)) (.node (o194 P) (.node (o322 P) (.node (o578 P) .nil .nil) .nil) (.node (o450 P) .nil .nil))) (.node (o98 P) (.node (o162 P) (.node (o290 P) (.node (o546 P) .nil .nil) .nil) (.node (o418 P) .nil .nil)) (.node (o226 P) (.node (o354 P) (.node (o610 P) .nil .nil) .nil) (.node (o482 P) .nil .nil)))) (.node (o50 P) (.node (o82 P) (.node (o146 P) (.node (o274 P) (.node (o530 P) .nil .nil) .nil) (.node (o402 P) .nil .nil)) (.node (o210 P) (.node (o338 P) (.node (o594 P) .nil .nil) .nil) (.node (o466 P) .nil .nil))) (.node (o114 P) (.node (o178 P) (.node (o306 P) (.node (o562 P) .nil .nil) .nil) (.node (o434 P) .nil .nil)) (.node (o242 P) (.node (o370 P) (.node (o626 P) .nil .nil) .nil) (.node (o498 P) .nil .nil))))) (.node (o26 P) (.node (o42 P) (.node (o74 P) (.node (o138 P) (.node (o266 P) (.node (o522 P) .nil .nil) .nil) (.node (o394 P) .nil .nil)) (.node (o202 P) (.node (o330 P) (.node (o586 P) .nil .nil) .nil) (.node (o458 P) .nil .nil))) (.node (o106 P) (.node (o170 P) (.node (o298 P) (.node (o554 P) .nil .nil) .nil) (.node (o426 P) .nil .nil)) (.node (o234 P) (.node (o362 P) (.node (o618 P) .nil .nil) .nil) (.node (o490 P) .nil .nil)))) (.node (o58 P) (.node (o90 P) (.node (o154 P) (.node (o282 P) (.node (o538 P) .nil .nil) .nil) (.node (o410 P) .nil .nil)) (.node (o218 P) (.node (o346 P) (.node (o602 P) .nil .nil) .nil) (.node (o474 P) .nil .nil))) (.node (o122 P) (.node (o186 P) (.node (o314 P) (.node (o570 P) .nil .nil) .nil) (.node (o442 P) .nil .nil)) (.node (o250 P) (.node (o378 P) (.node (o634 P) .nil .nil) .nil) (.node (o506 P) .nil .nil)))))) (.node (o14 P) (.node (o22 P) (.node (o38 P) (.node (o70 P) (.node (o134 P) (.node (o262 P) (.node (o518 P) .nil .nil) .nil) (.node (o390 P) .nil .nil)) (.node (o198 P) (.node (o326 P) (.node (o582 P) .nil .nil) .nil) (.node (o454 P) .nil .nil))) (.node (o102 P) (.node (o166 P) (.node (o294 P) (.node (o550 P) .nil .nil) .nil) (.node (o422 P) .nil .nil)) (.node (o230 P) (.node (o358 P) (.node (o614 P) .nil .nil) .nil) (.node (o486 P) .nil .nil)))) (.node (o54 P) (.node (o86 P) (.node (o150 P) (.node (o278 P) (.node (o534 P) .nil .nil) .nil) (.node (o406 P) .nil .nil)) (.node (o214 P) (.node (o342 P) (.node (o598 P) .nil .nil) .nil) (.node (o470 P) .nil .nil))) (.node (o118 P) (.node (o182 P) (.node (o310 P) (.node (o566 P) .nil .nil) .nil) (.node (o438 P) .nil .nil)) (.node (o246 P) (.node (o374 P) (.node (o630 P) .nil .nil) .nil) (.node (o502 P) .nil .nil))))) (.node (o30 P) (.node (o46 P) (.node (o78 P) (.node (o142 P) (.node (o270 P) (.node (o526 P) .nil .nil) .nil) (.node (o398 P) .nil .nil)) (.node (o206 P) (.node (o334 P) (.node (o590 P) .nil .nil) .nil) (.node (o462 P) .nil .nil))) (.node (o110 P) (.node (o174 P) (.node (o302 P) (.node (o558 P) .nil .nil) .nil) (.node (o430 P) .nil .nil)) (.node (o238 P) (.node (o366 P) (.node (o622 P) .nil .nil) .nil) (.node (o494 P) .nil .nil)))) (.node (o62 P) (.node (o94 P) (.node (o158 P) (.node (o286 P) (.node (o542 P) .nil .nil) .nil) (.node (o414 P) .nil .nil)) (.node (o222 P) (.node (o350 P) (.node (o606 P) .nil .nil) .nil) (.node (o478 P) .nil .nil))) (.node (o126 P) (.node (o190 P) (.node (o318 P) (.node (o574 P) .nil .nil) .nil) (.node (o446 P) .nil .nil)) (.node (o254 P) (.node (o382 P) (.node (o638 P) .nil .nil) .nil) (.node (o510 P) .nil .nil)))))))))
noncomputable def tr5 (P : Params) : BT := (.node (boot_o_0 P) (.node (boot_o_1 P) (.node (o3v4 P) (.node (boot_o_7 P) (.node (o15 P) (.node (o31 P) (.node (o63 P) (.node (o127 P) (.node (o255 P) (.node (o511 P) .nil .nil) .nil) (.node (o383 P) (.node (o639 P) .nil .nil) .nil)) (.node (o191 P) (.node (o319 P) (.node (o575 P) .nil .nil) .nil) (.node (o447 P) (.node (o703 P) .nil .nil) .nil))) (.node (o95 P) (.node (o159 P) (.node (o287 P) (.node (o543 P) .nil .nil) .nil) (.node (o415 P) (.node (o671 P) .nil .nil) .nil)) (.node (o223 P) (.node (o351 P) (.node (o607 P) .nil .nil) .nil) (.node (o479 P) (.node (o735 P) .nil .nil) .nil)))) (.node (o47 P) (.node (o79 P) (.node (o143 P) (.node (o271 P) (.node (o527 P) .nil .nil) .nil) (.node (o399 P) (.node (o655 P) .nil .nil) .nil)) (.node (o207 P) (.node (o335 P) (.node (o591 P) .nil .nil) .nil) (.node (o463 P) (.node (o719 P) .nil .nil) .nil))) (.node (o111 P) (.node (o175 P) (.node (o303 P) (.node (o559 P) .nil .nil) .nil) (.node (o431 P) (.node (o687 P) .nil .nil) .nil)) (.node (o239 P) (.node (o367 P) (.node (o623 P) .nil .nil) .nil) (.node (o495 P) (.node (o751 P) .nil .nil) .nil))))) (.node (o23 P) (.node (o39 P) (.node (o71 P) (.node (o135 P) (.node (o263 P) (.node (o519 P) .nil .nil) .nil) (.node (o391v1 P) (.node (o647 P) .nil .nil) .nil)) (.node (o199 P) (.node (o327 P) (.node (o583 P) .nil .nil) .nil) (.node (o455 P) (.node (o711 P) .nil .nil) .nil))) (.node (o103 P) (.node (o167 P) (.node (o295 P) (.node (o551 P) .nil .nil) .nil) (.node (o423 P) (.node (o679 P) .nil .nil) .nil)) (.node (o231 P) (.node (o359 P) (.node (o615 P) .nil .nil) .nil) (.node (o487 P) (.node (o743 P) .nil .nil) .nil)))) (.node (o55 P) (.node (o87 P) (.node (o151 P) (.node (o279 P) (.node (o535 P) .nil .nil) .nil) (.node (o407 P) (.node (o663 P) .nil .nil) .nil)) (.node (o215 P) (.node (o343 P) (.node (o599 P) .nil .nil) .nil) (.node (o471 P) (.node (o727 P) .nil .nil) .nil))) (.node (o119 P) (.node (o183 P) (.node (o311 P) (.node (o567 P) .nil .nil) .nil) (.node (o439 P) (.node (o695 P) .nil .nil) .nil)) (.node (o247 P) (.node (o375 P) (.node (o631 P) .nil .nil) .nil) (.node (o503 P) .nil .nil)))))) (.node (o11 P) (.node (o19 P) (.node (o35 P) (.node (o67 P) (.node (o131 P) (.node (o259 P) (.node (o515 P) .nil .nil) .nil) (.node (o387 P) (.node (o643 P) .nil .nil) .nil)) (.node (o195 P) (.node (o323 P) (.node (o579 P) .nil .nil) .nil) (.node (o451 P) (.node (o707 P) .nil .nil) .nil))) (.node (o99 P) (.node (o163 P) (.node (o291 P) (.node (o547 P) .nil .nil) .nil) (.node (o419 P) (.node (o675 P) .nil .nil) .nil)) (.node (o227 P) (.node (o355 P) (.node (o611 P) .nil .nil) .nil) (.node (o483 P) (.node (o739 P) .nil .nil) .nil)))) (.node (o51 P) (.node (o83 P) (.node (o147 P) (.node (o275 P) (.node (o531 P) .nil .nil) .nil) (.node (o403 P) (.node (o659 P) .nil .nil) .nil)) (.node (o211 P) (.node (o339 P) (.node (o595 P) .nil .nil) .nil) (.node (o467 P) (.node (o723 P) .nil .nil) .nil))) (.node (o115 P) (.node (o179 P) (.node (o307 P) (.node (o563 P) .nil .nil) .nil) (.node (o435 P) (.node (o691 P) .nil .nil) .nil)) (.node (o243 P) (.node (o371 P) (.node (o627 P) .nil .nil) .nil) (.node (o499 P) .nil .nil))))) (.node (o27 P) (.node (o43 P) (.node (o75 P) (.node (o139 P) (.node (o267 P) (.node (o523 P) .nil .nil) .nil) (.node (o395 P) (.node (o651 P) .nil .nil) .nil)) (.node (o203 P) (.node (o331 P) (.node (o587 P) .nil .nil) .nil) (.node (o459 P) (.node (o715 P) .nil .nil) .nil))) (.node (o107 P) (.node (o171 P) (.node (o299 P) (.node (o555 P) .nil .nil) .nil) (.node (o427 P) (.node (o683 P) .nil .nil) .nil)) (.node (o235 P) (.node (o363 P) (.node (o619 P) .nil .nil) .nil) (.node (o491 P) (.node (o747 P) .nil .nil) .nil)))) (.node (o59 P) (.node (o91 P) (.node (o155 P) (.node (o283 P) (.node (o539 P) .nil .nil) .nil) (.node (o411 P) (.node (o667 P) .nil .nil) .nil)) (.node (o219 P) (.node (o347 P) (.node (o603 P) .nil .nil) .nil) (.node (o475 P) (.node (o731 P) .nil .nil) .nil))) (.node (o123 P) (.node (o187 P) (.node (o315 P) (.node (o571 P) .nil .nil) .nil) (.node (o443 P) (.node (o699 P) .nil .nil) .nil)) (.node (o251 P) (.node (o379 P) (.node (o635 P) .nil .nil) .nil) (.node (o507 P) .nil .nil))))))) (.node (boot_o_5 P) (.node (boot_o_9 P) (.node (o17 P) (.node (o33 P) (.node (o65 P) (.node (o129 P) (.node (o257 P) (.node (o513 P) .nil .nil) .nil) (.node (o385 P) (.node (o641 P) .nil .nil) .nil)) (.node (o193 P) (.node (o321 P) (.node (o577 P) .nil .nil) .nil) (.node (o449 P) (.node (o705 P) .nil .nil) .nil))) (.node (o97 P) (.node (o161 P) (.node (o289 P) (.node (o545 P) .nil .nil) .nil) (.node (o417 P) (.node (o673 P) .nil .nil) .nil)) (.node (o225 P) (.node (o353 P) (.node (o609 P) .nil .nil) .nil) (.node (o481 P) (.node (o737 P) .nil .nil) .nil)))) (.node (o49 P) (.node (o81 P) (.node (o145 P) (.node (o273 P) (.node (o529 P) .nil .nil) .nil) (.node (o401 P) (.node (o657 P) .nil .nil) .nil)) (.node (o209 P) (.node (o337 P) (.node (o593 P) .nil .nil) .nil) (.node (o465 P) (.node (o721 P) .nil .nil) .nil))) (.node (o113 P) (.node (o177 P) (.node (o305 P) (.node (o561 P) .nil .nil) .nil) (.node (o433 P) (.node (o689 P) .nil .nil) .nil)) (.node (o241 P) (.node (o369 P) (.node (o625 P) .nil .nil) .nil) (.node (o497 P) (.node (o753 P) .nil .nil) .nil))))) (.node (o25 P) (.node (o41 P) (.node (o73 P) (.node (o137 P) (.node (o265 P) (.node (o521 P) .nil .nil) .nil) (.node (o393 P) (.node (o649 P) .nil .nil) .nil)) (.node (o201 P) (.node (o329 P) (.node (o585 P) .nil .nil) .nil) (.node (o457 P) (.node (o713 P) .nil .nil) .nil))) (.node (o105 P) (.node (o169 P) (.node (o297 P) (.node (o553 P) .nil .nil) .nil) (.node (o425 P) (.node (o681 P) .nil .nil) .nil)) (.node (o233 P) (.node (o361 P) (.node (o617 P) .nil .nil) .nil) (.node (o489 P) (.node (o745 P) .nil .nil) .nil)))) (.node (o57 P) (.node (o89 P) (.node (o153 P) (.node (o281 P) (.node (o537 P) .nil .nil) .nil) (.node (o409 P) (.node (o665 P) .nil .nil) .nil)) (.node (o217 P) (.node (o345 P) (.node (o601 P) .nil .nil) .nil) (.node (o473 P) (.node (o729 P) .nil .nil) .nil))) (.node (o121 P) (.node (o185 P) (.node (o313 P) (.node (o569 P) .nil .nil) .nil) (.node (o441 P) (.node (o697 P) .nil .nil) .nil)) (.node (o249 P) (.node (o377 P) (.node (o633 P) .nil .nil) .nil) (.node (o505 P) .nil .nil)))))) (.node (o13 P) (.node (o21 P) (.node (o37 P) (.node (o69 P) (.node (o133 P) (.node (o261 P) (.node (o517 P) .nil .nil) .nil) (.node (o389 P) (.node (o645 P) .nil .nil) .nil)) (.node (o197 P) (.node (o325 P) (.node (o581 P) .nil .nil) .nil) (.node (o453 P) (.node (o709 P) .nil .nil) .nil))) (.node (o101 P) (.node (o165 P) (.node (o293 P) (.node (o549 P) .nil .nil) .nil) (.node (o421 P) (.node (o677 P) .nil .nil) .nil)) (.node (o229 P) (.node (o357 P) (.node (o613 P) .nil .nil) .nil) (.node (o485 P) (.node (o741 P) .nil .nil) .nil)))) (.node (o53 P) (.node (o85 P) (.node (o149 P) (.node (o277 P) (.node (o533 P) .nil .nil) .nil) (.node (o405 P) (.node (o661 P) .nil .nil) .nil)) (.node (o213 P) (.node (o341 P) (.node (o597 P) .nil .nil) .nil) (.node (o469 P) (.node (o725 P) .nil .nil) .nil))) (.node (o117 P) (.node (o181 P) (.node (o309 P) (.node (o565 P) .nil .nil) .nil) (.node (o437 P) (.node (o693 P) .nil .nil) .nil)) (.node (o245 P) (.node (o373 P) (.node (o629 P) .nil .nil) .nil) (.node (o501 P) .nil .nil))))) (.node (o29 P) (.node (o45 P) (.node (o77 P) (.node (o141 P) (.node (o269 P) (.node (o525 P) .nil .nil) .nil) (.node (o397 P) (.node (o653 P) .nil .nil) .nil)) (.node (o205 P) (.node (o333 P) (.node (o589 P) .nil .nil) .nil) (.node (o461 P) (.node (o717 P) .nil .nil) .nil))) (.node (o109 P) (.node (o173 P) (.node (o301 P) (.node (o557 P) .nil .nil) .nil) (.node (o429v2 P) (.node (o685 P) .nil .nil) .nil)) (.node (o237 P) (.node (o365 P) (.node (o621 P) .nil .nil) .nil) (.node (o493 P) (.node (o749 P) .nil .nil) .nil)))) (.node (o61 P) (.node (o93 P) (.node (o157 P) (.node (o285 P) (.node (o541 P) .nil .nil) .nil) (.node (o413 P) (.node (o669 P) .nil .nil) .nil)) (.node (o221 P) (.node (o349 P) (.node (o605 P) .nil .nil) .nil) (.node (o477 P) (.node (o733 P) .nil .nil) .nil))) (.node (o125 P) (.node (o189 P) (.node (o317 P) (.node (o573 P) .nil .nil) .nil) (.node (o445 P) (.node (o701 P) .nil .nil) .nil)) (.node (o253 P) (.node (o381 P) (.node (o637 P) .nil .nil) .nil) (.node (o509 P) .nil .nil)))))))) (.node (boot_o_2 P) (.node (boot_o_4 P) (.node (boot_o_8 P) (.node (o16 P) (.node (o32 P) (.node (o64 P) (.node (o128 P) (.node (o256 P) (.node (o512 P) .nil .nil) .nil) (.node (o384 P) (.node (o640 P) .nil .nil) .nil)) (.node (o192 P) (.node (o320 P) (.node (o576 P) .nil .nil) .nil) (.node (o448v1 P) (.node (o704 P) .nil .nil) .nil))) (.node (o96 P) (.node (o160 P) (.node (o288 P) (.node (o544 P) .nil .nil) .nil) (.node (o416 P) (.node (o672 P) .nil .nil) .nil)) (.node (o224 P) (.node (o352 P) (.node (o608 P) .nil .nil) .nil) (.node (o480 P) (.node (o736 P) .nil .nil) .nil)))) (.node (o48 P) (.node (o80 P) (.node (o144 P) (.node (o272 P) (.node (o528 P) .nil .nil) .nil) (.node (o400 P) (.node (o656 P) .nil .nil) .nil)) (.node (o208 P) (.node (o336 P) (.node (o592 P) .nil .nil) .nil) (.node (o464 P) (.node (o720 P) .nil .nil) .nil))) (.node (o112 P) (.node (o176 P) (.node (o304 P) (.node (o560 P) .nil .nil) .nil) (.node (o432 P) (.node (o688 P) .nil .nil) .nil)) (.node (o240 P) (.node (o368 P) (.node (o624 P) .nil .nil) .nil) (.node (o496 P) (.node (o752 P) .nil .nil) .nil))))) (.node (o24 P) (.node (o40 P) (.node (o72 P) (.node (o136 P) (.node (o264 P) (.node (o520 P) .nil .nil) .nil) (.node (o392 P) (.node (o648 P) .nil .nil) .nil)) (.node (o200 P) (.node (o328 P) (.node (o584 P) .nil .nil) .nil) (.node (o456 P) (.node (o712 P) .nil .nil) .nil))) (.node (o104 P) (.node (o168 P) (.node (o296 P) (.node (o552 P) .nil .nil) .nil) (.node (o424 P) (.node (o680 P) .nil .nil) .nil)) (.node (o232 P) (.node (o360 P) (.node (o616 P) .nil .nil) .nil) (.node (o488 P) (.node (o744 P) .nil .nil) .nil)))) (.node (o56 P) (.node (o88 P) (.node (o152 P) (.node (o280 P) (.node (o536 P) .nil .nil) .nil) (.node (o408 P) (.node (o664 P) .nil .nil) .nil)) (.node (o216 P) (.node (o344 P) (.node (o600 P) .nil .nil) .nil) (.node (o472 P) (.node (o728 P) .nil .nil) .nil))) (.node (o120 P) (.node (o184 P) (.node (o312 P) (.node (o568 P) .nil .nil) .nil) (.node (o440 P) (.node (o696 P) .nil .nil) .nil)) (.node (o248 P) (.node (o376 P) (.node (o632 P) .nil .nil) .nil) (.node (o504 P) .nil .nil)))))) (.node (o12v5 P) (.node (o20 P) (.node (o36 P) (.node (o68 P) (.node (o132 P) (.node (o260 P) (.node (o516 P) .nil .nil) .nil) (.node (o388 P) (.node (o644 P) .nil .nil) .nil)) (.node (o196 P) (.node (o324 P) (.node (o580 P) .nil .nil) .nil) (.node (o452 P) (.node (o708 P) .nil .nil) .nil))) (.node (o100 P) (.node (o164 P) (.node (o292 P) (.node (o548 P) .nil .nil) .nil) (.node (o420 P) (.node (o676 P) .nil .nil) .nil)) (.node (o228 P) (.node (o356 P) (.node (o612 P) .nil .nil) .nil) (.node (o484 P) (.node (o740 P) .nil .nil) .nil)))) (.node (o52 P) (.node (o84 P) (.node (o148 P) (.node (o276 P) (.node (o532 P) .nil .nil) .nil) (.node (o404 P) (.node (o660 P) .nil .nil) .nil)) (.node (o212 P) (.node (o340 P) (.node (o596 P) .nil .nil) .nil) (.node (o468 P) (.node (o724 P) .nil .nil) .nil))) (.node (o116 P) (.node (o180 P) (.node (o308 P) (.node (o564 P) .nil .nil) .nil) (.node (o436 P) (.node (o692 P) .nil .nil) .nil)) (.node (o244 P) (.node (o372 P) (.node (o628 P) .nil .nil) .nil) (.node (o500 P) .nil .nil))))) (.node (o28 P) (.node (o44 P) (.node (o76 P) (.node (o140 P) (.node (o268 P) (.node (o524 P) .nil .nil) .nil) (.node (o396 P) (.node (o652 P) .nil .nil) .nil)) (.node (o204 P) (.node (o332 P) (.node (o588 P) .nil .nil) .nil) (.node (o460 P) (.node (o716 P) .nil .nil) .nil))) (.node (o108 P) (.node (o172 P) (.node (o300 P) (.node (o556 P) .nil .nil) .nil) (.node (o428 P) (.node (o684 P) .nil .nil) .nil)) (.node (o236 P) (.node (o364 P) (.node (o620 P) .nil .nil) .nil) (.node (o492 P) (.node (o748 P) .nil .nil) .nil)))) (.node (o60 P) (.node (o92 P) (.node (o156 P) (.node (o284 P) (.node (o540 P) .nil .nil) .nil) (.node (o412 P) (.node (o668 P) .nil .nil) .nil)) (.node (o220 P) (.node (o348 P) (.node (o604 P) .nil .nil) .nil) (.node (o476 P) (.node (o732 P) .nil .nil) .nil))) (.node (o124 P) (.node (o188 P) (.node (o316 P) (.node (o572 P) .nil .nil) .nil) (.node (o444 P) (.node (o700 P) .nil .nil) .nil)) (.node (o252 P) (.node (o380 P) (.node (o636 P) .nil .nil) .nil) (.node (o508 P) .nil .nil))))))) (.node (boot_o_6 P) (.node (boot_o_10 P) (.node (o18 P) (.node (o34 P) (.node (o66 P) (.node (o130 P) (.node (o258 P) (.node (o514 P) .nil .nil) .nil) (.node (o386 P) (.node (o642 P) .nil .nil) .nil)) (.node (o194 P) (.node (o322 P) (.node (o578 P) .nil .nil) .nil) (.node (o450 P) (.node (o706 P) .nil .nil) .nil))) (.node (o98 P) (.node (o162 P) (.node (o290 P) (.node (o546 P) .nil .nil) .nil) (.node (o418 P) (.node (o674 P) .nil .nil) .nil)) (.node (o226 P) (.node (o354 P) (.node (o610 P) .nil .nil) .nil) (.node (o482 P) (.node (o738 P) .nil .nil) .nil)))) (.node (o50 P) (.node (o82 P) (.node (o146 P) (.node (o274 P) (.node (o530 P) .nil .nil) .nil) (.node (o402 P) (.node (o658 P) .nil .nil) .nil)) (.node (o210 P) (.node (o338 P) (.node (o594 P) .nil .nil) .nil) (.node (o466 P) (.node (o722 P) .nil .nil) .nil))) (.node (o114 P) (.node (o178 P) (.node (o306 P) (.node (o562 P) .nil .nil) .nil) (.node (o434 P) (.node (o690 P) .nil .nil) .nil)) (.node (o242 P) (.node (o370 P) (.node (o626 P) .nil .nil) .nil) (.node (o498 P) (.node (o754 P) .nil .nil) .nil))))) (.node (o26 P) (.node (o42 P) (.node (o74 P) (.node (o138 P) (.node (o266 P) (.node (o522 P) .nil .nil) .nil) (.node (o394 P) (.node (o650 P) .nil .nil) .nil)) (.node (o202 P) (.node (o330 P) (.node (o586 P) .nil .nil) .nil) (.node (o458 P) (.node (o714 P) .nil .nil) .nil))) (.node (o106 P) (.node (o170 P) (.node (o298 P) (.node (o554 P) .nil .nil) .nil) (.node (o426 P) (.node (o682 P) .nil .nil) .nil)) (.node (o234 P) (.node (o362 P) (.node (o618 P) .nil .nil) .nil) (.node (o490 P) (.node (o746 P) .nil .nil) .nil)))) (.node (o58 P) (.node (o90 P) (.node (o154 P) (.node (o282 P) (.node (o538 P) .nil .nil) .nil) (.node (o410v1 P) (.node (o666 P) .nil .nil) .nil)) (.node (o218 P) (.node (o346 P) (.node (o602 P) .nil .nil) .nil) (.node (o474 P) (.node (o730 P) .nil .nil) .nil))) (.node (o122 P) (.node (o186 P) (.node (o314 P) (.node (o570 P) .nil .nil) .nil) (.node (o442 P) (.node (o698 P) .nil .nil) .nil)) (.node (o250 P) (.node (o378 P) (.node (o634 P) .nil .nil) .nil) (.node (o506 P) .nil .nil)))))) (.node (o14 P) (.node (o22 P) (.node (o38 P) (.node (o70 P) (.node (o134 P) (.node (o262 P) (.node (o518 P) .nil .nil) .nil) (.node (o390 P) (.node (o646 P) .nil .nil) .nil)) (.node (o198 P) (.node (o326 P) (.node (o582 P) .nil .nil) .nil) (.node (o454 P) (.node (o710 P) .nil .nil) .nil))) (.node (o102 P) (.node (o166 P) (.node (o294 P) (.node (o550 P) .nil .nil) .nil) (.node (o422 P) (.node (o678 P) .nil .nil) .nil)) (.node (o230 P) (.node (o358 P) (.node (o614 P) .nil .nil) .nil) (.node (o486 P) (.node (o742 P) .nil .nil) .nil)))) (.node (o54 P) (.node (o86 P) (.node (o150 P) (.node (o278 P) (.node (o534 P) .nil .nil) .nil) (.node (o406 P) (.node (o662 P) .nil .nil) .nil)) (.node (o214 P) (.node (o342 P) (.node (o598 P) .nil .nil) .nil) (.node (o470 P) (.node (o726 P) .nil .nil) .nil))) (.node (o118 P) (.node (o182 P) (.node (o310 P) (.node (o566 P) .nil .nil) .nil) (.node (o438 P) (.node (o694 P) .nil .nil) .nil)) (.node (o246 P) (.node (o374 P) (.node (o630 P) .nil .nil) .nil) (.node (o502 P) .nil .nil))))) (.node (o30 P) (.node (o46 P) (.node (o78 P) (.node (o142 P) (.node (o270 P) (.node (o526 P) .nil .nil) .nil) (.node (o398 P) (.node (o654 P) .nil .nil) .nil)) (.node (o206 P) (.node (o334 P) (.node (o590 P) .nil .nil) .nil) (.node (o462 P) (.node (o718 P) .nil .nil) .nil))) (.node (o110 P) (.node (o174 P) (.node (o302 P) (.node (o558 P) .nil .nil) .nil) (.node (o430 P) (.node (o686 P) .nil .nil) .nil)) (.node (o238 P) (.node (o366 P) (.node (o622 P) .nil .nil) .nil) (.node (o494 P) (.node (o750 P) .nil .nil) .nil)))) (.node (o62 P) (.node (o94 P) (.node (o158 P) (.node (o286 P) (.node (o542 P) .nil .nil) .nil) (.node (o414 P) (.node (o670 P) .nil .nil) .nil)) (.node (o222 P) (.node (o350 P) (.node (o606 P) .nil .nil) .nil) (.node (o478 P) (.node (o734 P) .nil .nil) .nil))) (.node (o126 P) (.node (o190 P) (.node (o318 P) (.node (o574 P) .nil .nil) .nil) (.node (o446 P) (.node (o702 P) .nil .nil) .nil)) (.node (o254 P) (.node (o382 P) (.node (o638 P) .nil .nil) .nil) (.node (o510 P) .nil .nil)))))))))
noncomputable def tr6 (P : Params) : BT := (.node (boot_o_0 P) (.node (boot_o_1 P) (.node (o3v5 P) (.node (boot_o_7 P) (.node (o15 P) (.node (o31 P) (.node (o63 P) (.node (o127 P) (.node (o255 P) (.node (o511 P) .nil .nil) (.node (o767 P) .nil .nil)) (.node (o383 P) (.node (o639 P) .nil .nil) .nil)) (.node (o191 P) (.node (o319 P) (.node (o575 P) .nil .nil) .nil) (.node (o447 P) (.node (o703 P) .nil .nil) .nil))) (.node (o95 P) (.node (o159 P) (.node (o287 P) (.node (o543 P) .nil .nil) (.node (o799 P) .nil .nil)) (.node (o415 P) (.node (o671 P) .nil .nil) .nil)) (.node (o223 P) (.node (o351 P) (.node (o607 P) .nil .nil) .nil) (.node (o479 P) (.node (o735 P) .nil .nil) .nil)))) (.node (o47 P) (.node (o79 P) (.node (o143 P) (.node (o271 P) (.node (o527 P) .nil .nil) (.node (o783 P) .nil .nil)) (.node (o399 P) (.node (o655 P) .nil .nil) .nil)) (.node (o207 P) (.node (o335 P) (.node (o591 P) .nil .nil) .nil) (.node (o463 P) (.node (o719 P) .nil .nil) .nil))) (.node (o111 P) (.node (o175 P) (.node (o303 P) (.node (o559 P) .nil .nil) (.node (o815 P) .nil .nil)) (.node (o431 P) (.node (o687 P) .nil .nil) .nil)) (.node (o239 P) (.node (o367 P) (.node (o623 P) .nil .nil) .nil) (.node (o495 P) (.node (o751 P) .nil .nil) .nil))))) (.node (o23 P) (.node (o39 P) (.node (o71 P) (.node (o135 P) (.node (o263 P) (.node (o519 P) .nil .nil) (.node (o775 P) .nil .nil)) (.node (o391v1 P) (.node (o647 P) .nil .nil) .nil)) (.node (o199 P) (.node (o327 P) (.node (o583 P) .nil .nil) .nil) (.node (o455 P) (.node (o711 P) .nil .nil) .nil))) (.node (o103 P) (.node (o167 P) (.node (o295 P) (.node (o551 P) .nil .nil) (.node (o807 P) .nil .nil)) (.node (o423 P) (.node (o679 P) .nil .nil) .nil)) (.node (o231 P) (.node (o359 P) (.node (o615 P) .nil .nil) .nil) (.node (o487 P) (.node (o743 P) .nil .nil) .nil)))) (.node (o55 P) (.node (o87 P) (.node (o151 P) (.node (o279 P) (.node (o535 P) .nil .nil) (.node (o791 P) .nil .nil)) (.node (o407 P) (.node (o663 P) .nil .nil) .nil)) (.node (o215 P) (.node (o343 P) (.node (o599 P) .nil .nil) .nil) (.node (o471 P) (.node (o727 P) .nil .nil) .nil))) (.node (o119 P) (.node (o183 P) (.node (o311 P) (.node (o567 P) .nil .nil) (.node (o823 P) .nil .nil)) (.node (o439 P) (.node (o695 P) .nil .nil) .nil)) (.node (o247 P) (.node (o375 P) (.node (o631 P) .nil .nil) .nil) (.node (o503 P) (.node (o759 P) .nil .nil) .nil)))))) (.node (o11 P) (.node (o19 P) (.node (o35 P) (.node (o67 P) (.node (o131 P) (.node (o259 P) (.node (o515 P) .nil .nil) (.node (o771 P) .nil .nil)) (.node (o387 P) (.node (o643 P) .nil .nil) .nil)) (.node (o195 P) (.node (o323 P) (.node (o579 P) .nil .nil) .nil) (.node (o451 P) (.node (o707 P) .nil .nil) .nil))) (.node (o99 P) (.node (o163 P) (.node (o291 P) (.node (o547 P) .nil .nil) (.node (o803 P) .nil .nil)) (.node (o419 P) (.node (o675 P) .nil .nil) .nil)) (.node (o227 P) (.node (o355 P) (.node (o611 P) .nil .nil) .nil) (.node (o483 P) (.node (o739 P) .nil .nil) .nil)))) (.node (o51 P) (.node (o83 P) (.node (o147 P) (.node (o275 P) (.node (o531 P) .nil .nil) (.node (o787 P) .nil .nil)) (.node (o403 P) (.node (o659 P) .nil .nil) .nil)) (.node (o211 P) (.node (o339 P) (.node (o595 P) .nil .nil) .nil) (.node (o467 P) (.node (o723 P) .nil .nil) .nil))) (.node (o115 P) (.node (o179 P) (.node (o307 P) (.node (o563 P) .nil .nil) (.node (o819 P) .nil .nil)) (.node (o435 P) (.node (o691 P) .nil .nil) .nil)) (.node (o243 P) (.node (o371 P) (.node (o627 P) .nil .nil) .nil) (.node (o499 P) (.node (o755 P) .nil .nil) .nil))))) (.node (o27 P) (.node (o43 P) (.node (o75 P) (.node (o139 P) (.node (o267 P) (.node (o523 P) .nil .nil) (.node (o779 P) .nil .nil)) (.node (o395 P) (.node (o651 P) .nil .nil) .nil)) (.node (o203 P) (.node (o331 P) (.node (o587 P) .nil .nil) .nil) (.node (o459 P) (.node (o715 P) .nil .nil) .nil))) (.node (o107 P) (.node (o171 P) (.node (o299 P) (.node (o555 P) .nil .nil) (.node (o811 P) .nil .nil)) (.node (o427 P) (.node (o683 P) .nil .nil) .nil)) (.node (o235 P) (.node (o363 P) (.node (o619 P) .nil .nil) .nil) (.node (o491 P) (.node (o747 P) .nil .nil) .nil)))) (.node (o59 P) (.node (o91 P) (.node (o155 P) (.node (o283 P) (.node (o539 P) .nil .nil) (.node (o795 P) .nil .nil)) (.node (o411 P) (.node (o667 P) .nil .nil) .nil)) (.node (o219 P) (.node (o347 P) (.node (o603 P) .nil .nil) .nil) (.node (o475 P) (.node (o731 P) .nil .nil) .nil))) (.node (o123 P) (.node (o187 P) (.node (o315 P) (.node (o571 P) .nil .nil) (.node (o827 P) .nil .nil)) (.node (o443 P) (.node (o699 P) .nil .nil) .nil)) (.node (o251 P) (.node (o379 P) (.node (o635 P) .nil .nil) .nil) (.node (o507 P) (.node (o763 P) .nil .nil) .nil))))))) (.node (boot_o_5 P) (.node (boot_o_9 P) (.node (o17 P) (.node (o33 P) (.node (o65 P) (.node (o129 P) (.node (o257 P) (.node (o513 P) .nil .nil) (.node (o769 P) .nil .nil)) (.node (o385 P) (.node (o641 P) .nil .nil) .nil)) (.node (o193 P) (.node (o321 P) (.node (o577 P) .nil .nil) .nil) (.node (o449 P) (.node (o705 P) .nil .nil) .nil))) (.node (o97 P) (.node (o161 P) (.node (o289 P) (.node (o545 P) .nil .nil) (.node (o801 P) .nil .nil)) (.node (o417 P) (.node (o673 P) .nil .nil) .nil)) (.node (o225 P) (.node (o353 P) (.node (o609 P) .nil .nil) .nil) (.node (o481 P) (.node (o737 P) .nil .nil) .nil)))) (.node (o49 P) (.node (o81 P) (.node (o145 P) (.node (o273 P) (.node (o529 P) .nil .nil) (.node (o785 P) .nil .nil)) (.node (o401 P) (.node (o657 P) .nil .nil) .nil)) (.node (o209 P) (.node (o337 P) (.node (o593 P) .nil .nil) .nil) (.node (o465 P) (.node (o721 P) .nil .nil) .nil))) (.node (o113 P) (.node (o177 P) (.node (o305 P) (.node (o561 P) .nil .nil) (.node (o817 P) .nil .nil)) (.node (o433 P) (.node (o689 P) .nil .nil) .nil)) (.node (o241 P) (.node (o369 P) (.node (o625 P) .nil .nil) .nil) (.node (o497 P) (.node (o753 P) .nil .nil) .nil))))) (.node (o25 P) (.node (o41 P) (.node (o73 P) (.node (o137 P) (.node (o265 P) (.node (o521 P) .nil .nil) (.node (o777 P) .nil .nil)) (.node (o393 P) (.node (o649 P) .nil .nil) .nil)) (.node (o201 P) (.node (o329 P) (.node (o585 P) .nil .nil) .nil) (.node (o457 P) (.node (o713 P) .nil .nil) .nil))) (.node (o105 P) (.node (o169 P) (.node (o297 P) (.node (o553 P) .nil .nil) (.node (o809 P) .nil .nil)) (.node (o425 P) (.node (o681 P) .nil .nil) .nil)) (.node (o233 P) (.node (o361 P) (.node (o617 P) .nil .nil) .nil) (.node (o489 P) (.node (o745 P) .nil .nil) .nil)))) (.node (o57 P) (.node (o89 P) (.node (o153 P) (.node (o281 P) (.node (o537 P) .nil .nil) (.node (o793 P) .nil .nil)) (.node (o409 P) (.node (o665 P) .nil .nil) .nil)) (.node (o217 P) (.node (o345 P) (.node (o601 P) .nil .nil) .nil) (.node (o473 P) (.node (o729 P) .nil .nil) .nil))) (.node (o121 P) (.node (o185 P) (.node (o313 P) (.node (o569 P) .nil .nil) (.node (o825 P) .nil .nil)) (.node (o441 P) (.node (o697 P) .nil .nil) .nil)) (.node (o249 P) (.node (o377 P) (.node (o633 P) .nil .nil) .nil) (.node (o505 P) (.node (o761 P) .nil .nil) .nil)))))) (.node (o13 P) (.node (o21 P) (.node (o37 P) (.node (o69 P) (.node (o133 P) (.node (o261 P) (.node (o517 P) .nil .nil) (.node (o773 P) .nil .nil)) (.node (o389 P) (.node (o645 P) .nil .nil) .nil)) (.node (o197 P) (.node (o325 P) (.node (o581 P) .nil .nil) .nil) (.node (o453 P) (.node (o709 P) .nil .nil) .nil))) (.node (o101 P) (.node (o165 P) (.node (o293 P) (.node (o549 P) .nil .nil) (.node (o805 P) .nil .nil)) (.node (o421 P) (.node (o677 P) .nil .nil) .nil)) (.node (o229 P) (.node (o357 P) (.node (o613 P) .nil .nil) .nil) (.node (o485 P) (.node (o741 P) .nil .nil) .nil)))) (.node (o53 P) (.node (o85 P) (.node (o149 P) (.node (o277 P) (.node (o533 P) .nil .nil) (.node (o789 P) .nil .nil)) (.node (o405 P) (.node (o661 P) .nil .nil) .nil)) (.node (o213 P) (.node (o341 P) (.node (o597 P) .nil .nil) .nil) (.node (o469 P) (.node (o725 P) .nil .nil) .nil))) (.node (o117 P) (.node (o181 P) (.node (o309 P) (.node (o565 P) .nil .nil) (.node (o821 P) .nil .nil)) (.node (o437 P) (.node (o693 P) .nil .nil) .nil)) (.node (o245 P) (.node (o373 P) (.node (o629 P) .nil .nil) .nil) (.node (o501 P) (.node (o757 P) .nil .nil) .nil))))) (.node (o29 P) (.node (o45 P) (.node (o77 P) (.node (o141 P) (.node (o269 P) (.node (o525 P) .nil .nil) (.node (o781 P) .nil .nil)) (.node (o397 P) (.node (o653 P) .nil .nil) .nil)) (.node (o205 P) (.node (o333 P) (.node (o589 P) .nil .nil) .nil) (.node (o461 P) (.node (o717 P) .nil .nil) .nil))) (.node (o109 P) (.node (o173 P) (.node (o301 P) (.node (o557 P) .nil .nil) (.node (o813 P) .nil .nil)) (.node (o429v2 P) (.node (o685 P) .nil .nil) .nil)) (.node (o237 P) (.node (o365 P) (.node (o621 P) .nil .nil) .nil) (.node (o493 P) (.node (o749 P) .nil .nil) .nil)))) (.node (o61 P) (.node (o93 P) (.node (o157 P) (.node (o285 P) (.node (o541 P) .nil .nil) (.node (o797 P) .nil .nil)) (.node (o413 P) (.node (o669 P) .nil .nil) .nil)) (.node (o221 P) (.node (o349 P) (.node (o605 P) .nil .nil) .nil) (.node (o477 P) (.node (o733 P) .nil .nil) .nil))) (.node (o125 P) (.node (o189 P) (.node (o317 P) (.node (o573 P) .nil .nil) .nil) (.node (o445 P) (.node (o701 P) .nil .nil) .nil)) (.node (o253 P) (.node (o381 P) (.node (o637 P) .nil .nil) .nil) (.node (o509 P) (.node (o765 P) .nil .nil) .nil)))))))) (.node (boot_o_2 P) (.node (boot_o_4 P) (.node (boot_o_8 P) (.node (o16 P) (.node (o32 P) (.node (o64 P) (.node (o128 P) (.node (o256 P) (.node (o512 P) .nil .nil) (.node (o768 P) .nil .nil)) (.node (o384 P) (.node (o640 P) .nil .nil) .nil)) (.node (o192 P) (.node (o320 P) (.node (o576 P) .nil .nil) .nil) (.node (o448v1 P) (.node (o704 P) .nil .nil) .nil))) (.node (o96 P) (.node (o160 P) (.node (o288 P) (.node (o544 P) .nil .nil) (.node (o800 P) .nil .nil)) (.node (o416 P) (.node (o672 P) .nil .nil) .nil)) (.node (o224 P) (.node (o352 P) (.node (o608 P) .nil .nil) .nil) (.node (o480 P) (.node (o736 P) .nil .nil) .nil)))) (.node (o48 P) (.node (o80 P) (.node (o144 P) (.node (o272 P) (.node (o528 P) .nil .nil) (.node (o784 P) .nil .nil)) (.node (o400 P) (.node (o656 P) .nil .nil) .nil)) (.node (o208 P) (.node (o336 P) (.node (o592 P) .nil .nil) .nil) (.node (o464 P) (.node (o720 P) .nil .nil) .nil))) (.node (o112 P) (.node (o176 P) (.node (o304 P) (.node (o560 P) .nil .nil) (.node (o816 P) .nil .nil)) (.node (o432 P) (.node (o688 P) .nil .nil) .nil)) (.node (o240 P) (.node (o368 P) (.node (o624 P) .nil .nil) .nil) (.node (o496 P) (.node (o752 P) .nil .nil) .nil))))) (.node (o24 P) (.node (o40 P) (.node (o72 P) (.node (o136 P) (.node (o264 P) (.node (o520 P) .nil .nil) (.node (o776 P) .nil .nil)) (.node (o392 P) (.node (o648 P) .nil .nil) .nil)) (.node (o200 P) (.node (o328 P) (.node (o584 P) .nil .nil) .nil) (.node (o456 P) (.node (o712 P) .nil .nil) .nil))) (.node (o104 P) (.node (o168 P) (.node (o296 P) (.node (o552 P) .nil .nil) (.node (o808 P) .nil .nil)) (.node (o424 P) (.node (o680 P) .nil .nil) .nil)) (.node (o232 P) (.node (o360 P) (.node (o616 P) .nil .nil) .nil) (.node (o488 P) (.node (o744 P) .nil .nil) .nil)))) (.node (o56 P) (.node (o88 P) (.node (o152 P) (.node (o280 P) (.node (o536 P) .nil .nil) (.node (o792 P) .nil .nil)) (.node (o408 P) (.node (o664 P) .nil .nil) .nil)) (.node (o216 P) (.node (o344 P) (.node (o600 P) .nil .nil) .nil) (.node (o472 P) (.node (o728 P) .nil .nil) .nil))) (.node (o120 P) (.node (o184 P) (.node (o312 P) (.node (o568 P) .nil .nil) (.node (o824 P) .nil .nil)) (.node (o440 P) (.node (o696 P) .nil .nil) .nil)) (.node (o248 P) (.node (o376 P) (.node (o632 P) .nil .nil) .nil) (.node (o504 P) (.node (o760 P) .nil .nil) .nil)))))) (.node (o12v6 P) (.node (o20 P) (.node (o36 P) (.node (o68 P) (.node (o132 P) (.node (o260 P) (.node (o516 P) .nil .nil) (.node (o772 P) .nil .nil)) (.node (o388 P) (.node (o644 P) .nil .nil) .nil)) (.node (o196 P) (.node (o324 P) (.node (o580 P) .nil .nil) .nil) (.node (o452 P) (.node (o708 P) .nil .nil) .nil))) (.node (o100 P) (.node (o164 P) (.node (o292 P) (.node (o548 P) .nil .nil) (.node (o804 P) .nil .nil)) (.node (o420 P) (.node (o676 P) .nil .nil) .nil)) (.node (o228 P) (.node (o356 P) (.node (o612 P) .nil .nil) .nil) (.node (o484 P) (.node (o740 P) .nil .nil) .nil)))) (.node (o52 P) (.node (o84 P) (.node (o148 P) (.node (o276 P) (.node (o532 P) .nil .nil) (.node (o788 P) .nil .nil)) (.node (o404 P) (.node (o660 P) .nil .nil) .nil)) (.node (o212 P) (.node (o340 P) (.node (o596 P) .nil .nil) .nil) (.node (o468 P) (.node (o724 P) .nil .nil) .nil))) (.node (o116 P) (.node (o180 P) (.node (o308 P) (.node (o564 P) .nil .nil) (.node (o820 P) .nil .nil)) (.node (o436 P) (.node (o692 P) .nil .nil) .nil)) (.node (o244 P) (.node (o372 P) (.node (o628 P) .nil .nil) .nil) (.node (o500 P) (.node (o756 P) .nil .nil) .nil))))) (.node (o28 P) (.node (o44 P) (.node (o76 P) (.node (o140 P) (.node (o268 P) (.node (o524 P) .nil .nil) (.node (o780 P) .nil .nil)) (.node (o396 P) (.node (o652 P) .nil .nil) .nil)) (.node (o204 P) (.node (o332 P) (.node (o588 P) .nil .nil) .nil) (.node (o460 P) (.node (o716 P) .nil .nil) .nil))) (.node (o108 P) (.node (o172 P) (.node (o300 P) (.node (o556 P) .nil .nil) (.node (o812 P) .nil .nil)) (.node (o428 P) (.node (o684 P) .nil .nil) .nil)) (.node (o236 P) (.node (o364 P) (.node (o620 P) .nil .nil) .nil) (.node (o492 P) (.node (o748 P) .nil .nil) .nil)))) (.node (o60 P) (.node (o92 P) (.node (o156 P) (.node (o284 P) (.node (o540 P) .nil .nil) (.node (o796 P) .nil .nil)) (.node (o412 P) (.node (o668 P) .nil .nil) .nil)) (.node (o220 P) (.node (o348 P) (.node (o604 P) .nil .nil) .nil) (.node (o476 P) (.node (o732 P) .nil .nil) .nil))) (.node (o124 P) (.node (o188 P) (.node (o316 P) (.node (o572 P) .nil .nil) (.node (o828 P) .nil .nil)) (.node (o444 P) (.node (o700 P) .nil .nil) .nil)) (.node (o252 P) (.node (o380 P) (.node (o636 P) .nil .nil) .nil) (.node (o508 P) (.node (o764 P) .nil .nil) .nil))))))) (.node (boot_o_6 P) (.node (boot_o_10 P) (.node (o18 P) (.node (o34 P) (.node (o66 P) (.node (o130 P) (.node (o258 P) (.node (o514 P) .nil .nil) (.node (o770 P) .nil .nil)) (.node (o386 P) (.node (o642 P) .nil .nil) .nil)) (.node (o194 P) (.node (o322 P) (.node (o578 P) .nil .nil) .nil) (.node (o450 P) (.node (o706 P) .nil .nil) .nil))) (.node (o98 P) (.node (o162 P) (.node (o290 P) (.node (o546 P) .nil .nil) (.node (o802 P) .nil .nil)) (.node (o418 P) (.node (o674 P) .nil .nil) .nil)) (.node (o226 P) (.node (o354 P) (.node (o610 P) .nil .nil) .nil) (.node (o482 P) (.node (o738 P) .nil .nil) .nil)))) (.node (o50 P) (.node (o82 P) (.node (o146 P) (.node (o274 P) (.node (o530 P) .nil .nil) (.node (o786 P) .nil .nil)) (.node (o402 P) (.node (o658 P) .nil .nil) .nil)) (.node (o210 P) (.node (o338 P) (.node (o594 P) .nil .nil) .nil) (.node (o466 P) (.node (o722 P) .nil .nil) .nil))) (.node (o114 P) (.node (o178 P) (.node (o306 P) (.node (o562 P) .nil .nil) (.node (o818 P) .nil .nil)) (.node (o434 P) (.node (o690 P) .nil .nil) .nil)) (.node (o242 P) (.node (o370 P) (.node (o626 P) .nil .nil) .nil) (.node (o498 P) (.node (o754 P) .nil .nil) .nil))))) (.node (o26 P) (.node (o42 P) (.node (o74 P) (.node (o138 P) (.node (o266 P) (.node (o522 P) .nil .nil) (.node (o778 P) .nil .nil)) (.node (o394 P) (.node (o650 P) .nil .nil) .nil)) (.node (o202 P) (.node (o330 P) (.node (o586 P) .nil .nil) .nil) (.node (o458 P) (.node (o714 P) .nil .nil) .nil))) (.node (o106 P) (.node (o170 P) (.node (o298 P) (.node (o554 P) .nil .nil) (.node (o810 P) .nil .nil)) (.node (o426 P) (.node (o682 P) .nil .nil) .nil)) (.node (o234 P) (.node (o362 P) (.node (o618 P) .nil .nil) .nil) (.node (o490 P) (.node (o746 P) .nil .nil) .nil)))) (.node (o58 P) (.node (o90 P) (.node (o154 P) (.node (o282 P) (.node (o538 P) .nil .nil) (.node (o794 P) .nil .nil)) (.node (o410v2 P) (.node (o666 P) .nil .nil) .nil)) (.node (o218 P) (.node (o346 P) (.node (o602 P) .nil .nil) .nil) (.node (o474 P) (.node (o730 P) .nil .nil) .nil))) (.node (o122 P) (.node (o186 P) (.node (o314 P) (.node (o570 P) .nil .nil) (.node (o826 P) .nil .nil)) (.node (o442 P) (.node (o698 P) .nil .nil) .nil)) (.node (o250 P) (.node (o378 P) (.node (o634 P) .nil .nil) .nil) (.node (o506 P) (.node (o762 P) .nil .nil) .nil)))))) (.node (o14 P) (.node (o22 P) (.node (o38 P) (.node (o70 P) (.node (o134 P) (.node (o262 P) (.node (o518 P) .nil .nil) (.node (o774 P) .nil .nil)) (.node (o390 P) (.node (o646 P) .nil .nil) .nil)) (.node (o198 P) (.node (o326 P) (.node (o582 P) .nil .nil) .nil) (.node (o454 P) (.node (o710 P) .nil .nil) .nil))) (.node (o102 P) (.node (o166 P) (.node (o294 P) (.node (o550 P) .nil .nil) (.node (o806 P) .nil .nil)) (.node (o422 P) (.node (o678 P) .nil .nil) .nil)) (.node (o230 P) (.node (o358 P) (.node (o614 P) .nil .nil) .nil) (.node (o486 P) (.node (o742 P) .nil .nil) .nil)))) (.node (o54 P) (.node (o86 P) (.node (o150 P) (.node (o278 P) (.node (o534 P) .nil .nil) (.node (o790 P) .nil .nil)) (.node (o406 P) (.node (o662 P) .nil .nil) .nil)) (.node (o214 P) (.node (o342 P) (.node (o598 P) .nil .nil) .nil) (.node (o470 P) (.node (o726 P) .nil .nil) .nil))) (.node (o118 P) (.node (o182 P) (.node (o310 P) (.node (o566 P) .nil .nil) (.node (o822 P) .nil .nil)) (.node (o438 P) (.node (o694 P) .nil .nil) .nil)) (.node (o246 P) (.node (o374 P) (.node (o630 P) .nil .nil) .nil) (.node (o502 P) (.node (o758 P) .nil .nil) .nil))))) (.node (o30 P) (.node (o46 P) (.node (o78 P) (.node (o142 P) (.node (o270 P) (.node (o526 P) .nil .nil) (.node (o782 P) .nil .nil)) (.node (o398 P) (.node (o654 P) .nil .nil) .nil)) (.node (o206 P) (.node (o334 P) (.node (o590 P) .nil .nil) .nil) (.node (o462 P) (.node (o718 P) .nil .nil) .nil))) (.node (o110 P) (.node (o174 P) (.node (o302 P) (.node (o558 P) .nil .nil) (.node (o814 P) .nil .nil)) (.node (o430 P) (.node (o686 P) .nil .nil) .nil)) (.node (o238 P) (.node (o366 P) (.node (o622 P) .nil .nil) .nil) (.node (o494 P) (.node (o750 P) .nil .nil) .nil)))) (.node (o62 P) (.node (o94 P) (.node (o158 P) (.node (o286 P) (.node (o542 P) .nil .nil) (.node (o798 P) .nil .nil)) (.node (o414 P) (.node (o670 P) .nil .nil) .nil)) (.node (o222 P) (.node (o350 P) (.node (o606 P) .nil .nil) .nil) (.node (o478 P) (.node (o734 P) .nil .nil) .nil))) (.node (o126 P) (.node (o190 P) (.node (o318 P) (.node (o574 P) .nil .nil) .nil) (.node (o446 P) (.node (o702 P) .nil .nil) .nil)) (.node (o254 P) (.node (o382 P) (.node (o638 P) .nil .nil) .nil) (.node (o510 P) (.node (o766 P) .nil .nil) .nil)))))))))
noncomputable def hEnd (P : Params) : Heap := ⟨⟨boot_o_0 P :: boot_o_1 P :: boot_o_2 P :: o3v5 P :: boot_o_4 P :: boot_o_5 P :: boot_o_6 P :: boot_o_7 P :: boot_o_8 P :: boot_o_9 P :: boot_o_10 P :: o11 P :: o12v6 P :: o13 P :: o14 P :: o15 P :: o16 P :: o17 P :: o18 P :: o19 P :: o20 P :: o21 P :: o22 P :: o23 P :: o24 P :: o25 P :: o26 P :: o27 P :: o28 P :: o29 P :: o30 P :: o31 P :: o32 P :: o33 P :: o34 P :: o35 P :: o36 P :: o37 P :: o38 P :: o39 P :: o40 P :: o41 P :: o42 P :: o43 P :: o44 P :: o45 P :: o46 P :: o47 P :: o48 P :: o49 P :: o50 P :: o51 P :: o52 P :: o53 P :: o54 P :: o55 P :: o56 P :: o57 P :: o58 P :: o59 P :: o60 P :: o61 P :: o62 P :: o63 P :: o64 P :: o65 P :: o66 P :: o67 P :: o68 P :: o69 P :: o70 P :: o71 P :: o72 P :: o73 P :: o74 P :: o75 P :: o76 P :: o77 P :: o78 P :: o79 P :: o80 P :: o81 P :: o82 P :: o83 P :: o84 P :: o85 P :: o86 P :: o87 P :: o88 P :: o89 P :: o90 P :: o91 P :: o92 P :: o93 P :: o94 P :: o95 P :: o96 P :: o97 P :: o98 P :: o99 P :: o100 P :: o101 P :: o102 P :: o103 P :: o104 P :: o105 P :: o106 P :: o107 P :: o108 P :: o109 P :: o110 P :: o111 P :: o112 P :: o113 P :: o114 P :: o115 P :: o116 P :: o117 P :: o118 P :: o119 P :: o120 P :: o121 P :: o122 P :: o123 P :: o124 P :: o125 P :: o126 P :: o127 P :: o128 P :: o129 P :: o130 P :: o131 P :: o132 P :: o133 P :: o134 P :: o135 P :: o136 P :: o137 P :: o138 P :: o139 P :: o140 P :: o141 P :: o142 P :: o143 P :: o144 P :: o145 P :: o146 P :: o147 P :: o148 P :: o149 P :: o150 P :: o151 P :: o152 P :: o153 P :: o154 P :: o155 P :: o156 P :: o157 P :: o158 P :: o159 P :: o160 P :: o161 P :: o162 P :: o163 P :: o164 P :: o165 P :: o166 P :: o167 P :: o168 P :: o169 P :: o170 P :: o171 P :: o172 P :: o173 P :: o174 P :: o175 P :: o176 P :: o177 P :: o178 P :: o179 P :: o180 P :: o181 P :: o182 P :: o183 P :: o184 P :: o185 P :: o186 P :: o187 P :: o188 P :: o189 P :: o190 P :: o191 P :: o192 P :: o193 P :: o194 P :: o195 P :: o196 P :: o197 P :: o198 P :: o199 P :: o200 P :: o201 P :: o202 P :: o203 P :: o204 P :: o205 P :: o206 P :: o207 P :: o208 P :: o209 P :: o210 P :: o211 P :: o212 P :: o213 P :: o214 P :: o215 P :: o216 P :: o217 P :: o218 P :: o219 P :: o220 P :: o221 P :: o222 P :: o223 P :: o224 P :: o225 P :: o226 P :: o227 P :: o228 P :: o229 P :: o230 P :: o231 P :: o232 P :: o233 P :: o234 P :: o235 P :: o236 P :: o237 P :: o238 P :: o239 P :: o240 P :: o241 P :: o242 P :: o243 P :: o244 P :: o245 P :: o246 P :: o247 P :: o248 P :: o249 P :: o250 P :: o251 P :: o252 P :: o253 P :: o254 P :: o255 P :: o256 P :: o257 P :: o258 P :: o259 P :: o260 P :: o261 P :: o262 P :: o263 P :: o264 P :: o265 P :: o266 P :: o267 P :: o268 P :: o269 P :: o270 P :: o271 P :: o272 P :: o273 P :: o274 P :: o275 P :: o276 P :: o277 P :: o278 P :: o279 P :: o280 P :: o281 P :: o282 P :: o283 P :: o284 P :: o285 P :: o286 P :: o287 P :: o288 P :: o289 P :: o290 P :: o291 P :: o292 P :: o293 P :: o294 P :: o295 P :: o296 P :: o297 P :: o298 P :: o299 P :: o300 P :: o301 P :: o302 P :: o303 P :: o304 P :: o305 P :: o306 P :: o307 P :: o308 P :: o309 P :: o310 P :: o311 P :: o312 P :: o313 P :: o314 P :: o315 P :: o316 P :: o317 P :: o318 P :: o319 P :: o320 P :: o321 P :: o322 P :: o323 P :: o324 P :: o325 P :: o326 P :: o327 P :: o328 P :: o329 P :: o330 P :: o331 P :: o332 P :: o333 P :: o334 P :: o335 P :: o336 P :: o337 P :: o338 P :: o339 P :: o340 P :: o341 P :: o342 P :: o343 P :: o344 P :: o345 P :: o346 P :: o347 P :: o348 P :: o349 P :: o350 P :: o351 P :: o352 P :: o353 P :: o354 P :: o355 P :: o356 P :: o357 P :: o358 P :: o359 P :: o360 P :: o361 P :: o362 P :: o363 P :: o364 P :: o365 P :: o366 P :: o367 P :: o368 P :: o369 P :: o370 P :: o371 P :: o372 P :: o373 P :: o374 P :: o375 P :: o376 P :: o377 P :: o378 P :: o379 P :: o380 P :: o381 P :: o382 P :: o383 P :: o384 P :: o385 P :: o386 P :: o387 P :: o388 P :: o389 P :: o390 P :: o391v1 P :: o392 P :: o393 P :: o394 P :: o395 P :: o396 P :: o397 P :: o398 P :: o399 P :: o400 P :: o401 P :: o402 P :: o403 P :: o404 P :: o405 P :: o406 P :: o407 P :: o408 P :: o409 P :: o410v2 P :: o411 P :: o412 P :: o413 P :: o414 P :: o415 P :: o416 P :: o417 P :: o418 P :: o419 P :: o420 P :: o421 P :: o422 P :: o423 P :: o424 P :: o425 P :: o426 P :: o427 P :: o428 P :: o429v2 P :: o430 P :: o431 P :: o432 P :: o433 P :: o434 P :: o435 P :: o436 P :: o437 P :: o438 P :: o439 P :: o440 P :: o441 P :: o442 P :: o443 P :: o444 P :: o445 P :: o446 P :: o447 P :: o448v1 P :: o449 P :: o450 P :: o451 P :: o452 P :: o453 P :: o454 P :: o455 P :: o456 P :: o457 P :: o458 P :: o459 P :: o460 P :: o461 P :: o462 P :: o463 P :: o464 P :: o465 P :: o466 P :: o467 P :: o468 P :: o469 P :: o470 P :: o471 P :: o472 P :: o473 P :: o474 P :: o475 P :: o476 P :: o477 P :: o478 P :: o479 P :: o480 P :: o481 P :: o482 P :: o483 P :: o484 P :: o485 P :: o486 P :: o487 P :: o488 P :: o489 P :: o490 P :: o491 P :: o492 P :: o493 P :: o494 P :: o495 P :: o496 P :: o497 P :: o498 P :: o499 P :: o500 P :: o501 P :: o502 P :: o503 P :: o504 P :: o505 P :: o506 P :: o507 P :: o508 P :: o509 P :: o510 P :: o511 P :: o512 P :: o513 P :: o514 P :: o515 P :: o516 P :: o517 P :: o518 P :: o519 P :: o520 P :: o521 P :: o522 P :: o523 P :: o524 P :: o525 P :: o526 P :: o527 P :: o528 P :: o529 P :: o530 P :: o531 P :: o532 P :: o533 P :: o534 P :: o535 P :: o536 P :: o537 P :: o538 P :: o539 P :: o540 P :: o541 P :: o542 P :: o543 P :: o544 P :: o545 P :: o546 P :: o547 P :: o548 P :: o549 P :: o550 P :: o551 P :: o552 P :: o553 P :: o554 P :: o555 P :: o556 P :: o557 P :: o558 P :: o559 P :: o560 P :: o561 P :: o562 P :: o563 P :: o564 P :: o565 P :: o566 P :: o567 P :: o568 P :: o569 P :: o570 P :: o571 P :: o572 P :: o573 P :: o574 P :: o575 P :: o576 P :: o577 P :: o578 P :: o579 P :: o580 P :: o581 P :: o582 P :: o583 P :: o584 P :: o585 P :: o586 P :: o587 P :: o588 P :: o589 P :: o590 P :: o591 P :: o592 P :: o593 P :: o594 P :: o595 P :: o596 P :: o597 P :: o598 P :: o599 P :: o600 P :: o601 P :: o602 P :: o603 P :: o604 P :: o605 P :: o606 P :: o607 P :: o608 P :: o609 P :: o610 P :: o611 P :: o612 P :: o613 P :: o614 P :: o615 P :: o616 P :: o617 P :: o618 P :: o619 P :: o620 P :: o621 P :: o622 P :: o623 P :: o624 P :: o625 P :: o626 P :: o627 P :: o628 P :: o629 P :: o630 P :: o631 P :: o632 P :: o633 P :: o634 P :: o635 P :: o636 P :: o637 P :: o638 P :: o639 P :: o640 P :: o641 P :: o642 P :: o643 P :: o644 P :: o645 P :: o646 P :: o647 P :: o648 P :: o649 P :: o650 P :: o651 P :: o652 P :: o653 P :: o654 P :: o655 P :: o656 P :: o657 P :: o658 P :: o659 P :: o660 P :: o661 P :: o662 P :: o663 P :: o664 P :: o665 P :: o666 P :: o667 P :: o668 P :: o669 P :: o670 P :: o671 P :: o672 P :: o673 P :: o674 P :: o675 P :: o676 P :: o677 P :: o678 P :: o679 P :: o680 P :: o681 P :: o682 P :: o683 P :: o684 P :: o685 P :: o686 P :: o687 P :: o688 P :: o689 P :: o690 P :: o691 P :: o692 P :: o693 P :: o694 P :: o695 P :: o696 P :: o697 P :: o698 P :: o699 P :: o700 P :: o701 P :: o702 P :: o703 P :: o704 P :: o705 P :: o706 P :: o707 P :: o708 P :: o709 P :: o710 P :: o711 P :: o712 P :: o713 P :: o714 P :: o715 P :: o716 P :: o717 P :: o718 P :: o719 P :: o720 P :: o721 P :: o722 P :: o723 P :: o724 P :: o725 P :: o726 P :: o727 P :: o728 P :: o729 P :: o730 P :: o731 P :: o732 P :: o733 P :: o734 P :: o735 P :: o736 P :: o737 P :: o738 P :: o739 P :: o740 P :: o741 P :: o742 P :: o743 P :: o744 P :: o745 P :: o746 P :: o747 P :: o748 P :: o749 P :: o750 P :: o751 P :: o752 P :: o753 P :: o754 P :: o755 P :: o756 P :: o757 P :: o758 P :: o759 P :: o760 P :: o761 P :: o762 P :: o763 P :: o764 P :: o765 P :: o766 P :: o767 P :: o768 P :: o769 P :: o770 P :: o771 P :: o772 P :: o773 P :: o774 P :: o775 P :: o776 P :: o777 P :: o778 P :: o779 P :: o780 P :: o781 P :: o782 P :: o783 P :: o784 P :: o785 P :: o786 P :: o787 P :: o788 P :: o789 P :: o790 P :: o791 P :: o792 P :: o793 P :: o794 P :: o795 P :: o796 P :: o797 P :: o798 P :: o799 P :: o800 P :: o801 P :: o802 P :: o803 P :: o804 P :: o805 P :: o806 P :: o807 P :: o808 P :: o809 P :: o810 P :: o811 P :: o812 P :: o813 P :: o814 P :: o815 P :: o816 P :: o817 P :: o818 P :: o819 P :: o820 P :: o821 P :: o822 P :: o823 P :: o824 P :: o825 P :: o826 P :: o827 P :: o828 P :: []⟩, {}⟩
noncomputable def K : Params → Frag := fun P => (nat_lit 2, boot_o_2 P) :: (nat_lit 3, o3v5 P) :: (nat_lit 15, o15 P) :: (nat_lit 17, o17 P) :: (nat_lit 18, o18 P) :: (nat_lit 20, o20 P) :: (nat_lit 21, o21 P) :: (nat_lit 22, o22 P) :: (nat_lit 29, o29 P) :: (nat_lit 31, o31 P) :: (nat_lit 32, o32 P) :: (nat_lit 34, o34 P) :: (nat_lit 35, o35 P) :: (nat_lit 36, o36 P) :: (nat_lit 38, o38 P) :: (nat_lit 39, o39 P) :: (nat_lit 41, o41 P) :: (nat_lit 42, o42 P) :: (nat_lit 43, o43 P) :: (nat_lit 45, o45 P) :: (nat_lit 46, o46 P) :: (nat_lit 48, o48 P) :: (nat_lit 49, o49 P) :: (nat_lit 50, o50 P) :: (nat_lit 51, o51 P) :: (nat_lit 52, o52 P) :: (nat_lit 53, o53 P) :: (nat_lit 54, o54 P) :: (nat_lit 57, o57 P) :: (nat_lit 64, o64 P) :: (nat_lit 65, o65 P) :: (nat_lit 67, o67 P) :: (nat_lit 68, o68 P) :: (nat_lit 70, o70 P) :: (nat_lit 71, o71 P) :: (nat_lit 72, o72 P) :: (nat_lit 74, o74 P) :: (nat_lit 75, o75 P) :: (nat_lit 77, o77 P) :: (nat_lit 78, o78 P) :: (nat_lit 79, o79 P) :: (nat_lit 80, o80 P) :: (nat_lit 82, o82 P) :: (nat_lit 83, o83 P) :: (nat_lit 85, o85 P) :: (nat_lit 86, o86 P) :: (nat_lit 87, o87 P) :: (nat_lit 88, o88 P) :: (nat_lit 90, o90 P) :: (nat_lit 91, o91 P) :: (nat_lit 93, o93 P) :: (nat_lit 94, o94 P) :: (nat_lit 95, o95 P) :: (nat_lit 96, o96 P) :: (nat_lit 98, o98 P) :: (nat_lit 99, o99 P) :: (nat_lit 101, o101 P) :: (nat_lit 102, o102 P) :: (nat_lit 103, o103 P) :: (nat_lit 104, o104 P) :: (nat_lit 106, o106 P) :: (nat_lit 107, o107 P) :: (nat_lit 109, o109 P) :: (nat_lit 110, o110 P) :: (nat_lit 111, o111 P) :: (nat_lit 112, o112 P) :: (nat_lit 114, o114 P) :: (nat_lit 115, o115 P) :: (nat_lit 117, o117 P) :: (nat_lit 118, o118 P) :: (nat_lit 119, o119 P) :: (nat_lit 120, o120 P) :: (nat_lit 122, o122 P) :: (nat_lit 123, o123 P) :: (nat_lit 125, o125 P) :: (nat_lit 126, o126 P) :: (nat_lit 127, o127 P) :: (nat_lit 128, o128 P) :: (nat_lit 130, o130 P) :: (nat_lit 131, o131 P) :: (nat_lit 133, o133 P) :: (nat_lit 134, o134 P) :: (nat_lit 135, o135 P) :: (nat_lit 136, o136 P) :: (nat_lit 138, o138 P) :: (nat_lit 139, o139 P) :: (nat_lit 141, o141 P) :: (nat_lit 142, o142 P) :: (nat_lit 143, o143 P) :: (nat_lit 145, o145 P) :: (nat_lit 146, o146 P) :: (nat_lit 148, o148 P) :: (nat_lit 149, o149 P) :: (nat_lit 150, o150 P) :: (nat_lit 152, o152 P) :: (nat_lit 153, o153 P) :: (nat_lit 155, o155 P) :: (nat_lit 156, o156 P) :: (nat_lit 157, o157 P) :: (nat_lit 159, o159 P) :: (nat_lit 160, o160 P) :: (nat_lit 162, o162 P) :: (nat_lit 163, o163 P) :: (nat_lit 164, o164 P) :: (nat_lit 166, o166 P) :: (nat_lit 167, o167 P) :: (nat_lit 169, o169 P) :: (nat_lit 170, o170 P) :: (nat_lit 171, o171 P) :: (nat_lit 173, o173 P) :: (nat_lit 174, o174 P) :: (nat_lit 176, o176 P) :: (nat_lit 177, o177 P) :: (nat_lit 178, o178 P) :: (nat_lit 179, o179 P) :: (nat_lit 181, o181 P) :: (nat_lit 182, o182 P) :: (nat_lit 184, o184 P) :: (nat_lit 185, o185 P) :: (nat_lit 186, o186 P) :: (nat_lit 187, o187 P) :: (nat_lit 189, o189 P) :: (nat_lit 190, o190 P) :: (nat_lit 192, o192 P) :: (nat_lit 193, o193 P) :: (nat_lit 194, o194 P) :: (nat_lit 196, o196 P) :: (nat_lit 197, o197 P) :: (nat_lit 199, o199 P) :: (nat_lit 200, o200 P) :: (nat_lit 201, o201 P) :: (nat_lit 202, o202 P) :: (nat_lit 203, o203 P) :: (nat_lit 204, o204 P) :: (nat_lit 205, o205 P) :: (nat_lit 208, o208 P) :: (nat_lit 215, o215 P) :: (nat_lit 216, o216 P) :: (nat_lit 218, o218 P) :: (nat_lit 219, o219 P) :: (nat_lit 221, o221 P) :: (nat_lit 222, o222 P) :: (nat_lit 223, o223 P) :: (nat_lit 225, o225 P) :: (nat_lit 226, o226 P) :: (nat_lit 228, o228 P) :: (nat_lit 229, o229 P) :: (nat_lit 230, o230 P) :: (nat_lit 232, o232 P) :: (nat_lit 233, o233 P) :: (nat_lit 235, o235 P) :: (nat_lit 236, o236 P) :: (nat_lit 237, o237 P) :: (nat_lit 239, o239 P) :: (nat_lit 240, o240 P) :: (nat_lit 242, o242 P) :: (nat_lit 243, o243 P) :: (nat_lit 244, o244 P) :: (nat_lit 246, o246 P) :: (nat_lit 247, o247 P) :: (nat_lit 249, o249 P) :: (nat_lit 250, o250 P) :: (nat_lit 251, o251 P) :: (nat_lit 253, o253 P) :: (nat_lit 254, o254 P) :: (nat_lit 256, o256 P) :: (nat_lit 257, o257 P) :: (nat_lit 258, o258 P) :: (nat_lit 259, o259 P) :: (nat_lit 261, o261 P) :: (nat_lit 262, o262 P) :: (nat_lit 264, o264 P) :: (nat_lit 265, o265 P) :: (nat_lit 266, o266 P) :: (nat_lit 267, o267 P) :: (nat_lit 269, o269 P) :: (nat_lit 270, o270 P) :: (nat_lit 272, o272 P) :: (nat_lit 273, o273 P) :: (nat_lit 274, o274 P) :: (nat_lit 276, o276 P) :: (nat_lit 277, o277 P) :: (nat_lit 279, o279 P) :: (nat_lit 280, o280 P) :: (nat_lit 281, o281 P) :: (nat_lit 283, o283 P) :: (nat_lit 284, o284 P) :: (nat_lit 286, o286 P) :: (nat_lit 287, o287 P) :: (nat_lit 288, o288 P) :: (nat_lit 290, o290 P) :: (nat_lit 291, o291 P) :: (nat_lit 293, o293 P) :: (nat_lit 294, o294 P) :: (nat_lit 295, o295 P) :: (nat_lit 297, o297 P) :: (nat_lit 298, o298 P) :: (nat_lit 300, o300 P) :: (nat_lit 301, o301 P) :: (nat_lit 302, o302 P) :: (nat_lit 303, o303 P) :: (nat_lit 304, o304 P) :: (nat_lit 305, o305 P) :: (nat_lit 306, o306 P) :: (nat_lit 309, o309 P) :: (nat_lit 312, o312 P) :: (nat_lit 317, o317 P) :: (nat_lit 318, o318 P) :: (nat_lit 319, o319 P) :: (nat_lit 321, o321 P) :: (nat_lit 322, o322 P) :: (nat_lit 324, o324 P) :: (nat_lit 325, o325 P) :: (nat_lit 326, o326 P) :: (nat_lit 329, o329 P) :: (nat_lit 330, o330 P) :: (nat_lit 331, o331 P) :: (nat_lit 333, o333 P) :: (nat_lit 334, o334 P) :: (nat_lit 336, o336 P) :: (nat_lit 337, o337 P) :: (nat_lit 338, o338 P) :: (nat_lit 340, o340 P) :: (nat_lit 341, o341 P) :: (nat_lit 343, o343 P) :: (nat_lit 344, o344 P) :: (nat_lit 345, o345 P) :: (nat_lit 347, o347 P) :: (nat_lit 348, o348 P) :: (nat_lit 350, o350 P) :: (nat_lit 351, o351 P) :: (nat_lit 352, o352 P) :: (nat_lit 354, o354 P) :: (nat_lit 355, o355 P) :: (nat_lit 357, o357 P) :: (nat_lit 358, o358 P) :: (nat_lit 359, o359 P) :: (nat_lit 361, o361 P) :: (nat_lit 362, o362 P) :: (nat_lit 364, o364 P) :: (nat_lit 365, o365 P) :: (nat_lit 366, o366 P) :: (nat_lit 367, o367 P) :: (nat_lit 369, o369 P) :: (nat_lit 370, o370 P) :: (nat_lit 372, o372 P) :: (nat_lit 373, o373 P) :: (nat_lit 374, o374 P) :: (nat_lit 376, o376 P) :: (nat_lit 377, o377 P) :: (nat_lit 379, o379 P) :: (nat_lit 380, o380 P) :: (nat_lit 381, o381 P) :: (nat_lit 382, o382 P) :: (nat_lit 384, o384 P) :: (nat_lit 385, o385 P) :: (nat_lit 387, o387 P) :: (nat_lit 388, o388 P) :: (nat_lit 389, o389 P) :: (nat_lit 390, o390 P) :: (nat_lit 391, o391v1 P) :: (nat_lit 394, o394 P) :: (nat_lit 401, o401 P) :: (nat_lit 403, o403 P) :: (nat_lit 404, o404 P) :: (nat_lit 406, o406 P) :: (nat_lit 407, o407 P) :: (nat_lit 408, o408 P) :: (nat_lit 409, o409 P) :: (nat_lit 410, o410v2 P) :: (nat_lit 413, o413 P) :: (nat_lit 420, o420 P) :: (nat_lit 422, o422 P) :: (nat_lit 423, o423 P) :: (nat_lit 425, o425 P) :: (nat_lit 426, o426 P) :: (nat_lit 427, o427 P) :: (nat_lit 428, o428 P) :: (nat_lit 429, o429v2 P) :: (nat_lit 432, o432 P) :: (nat_lit 439, o439 P) :: (nat_lit 441, o441 P) :: (nat_lit 442, o442 P) :: (nat_lit 444, o444 P) :: (nat_lit 445, o445 P) :: (nat_lit 446, o446 P) :: (nat_lit 447, o447 P) :: (nat_lit 448, o448v1 P) :: (nat_lit 451, o451 P) :: (nat_lit 458, o458 P) :: (nat_lit 460, o460 P) :: (nat_lit 461, o461 P) :: (nat_lit 463, o463 P) :: (nat_lit 464, o464 P) :: (nat_lit 465, o465 P) :: (nat_lit 466, o466 P) :: (nat_lit 467, o467 P) :: (nat_lit 470, o470 P) :: (nat_lit 477, o477 P) :: (nat_lit 479, o479 P) :: (nat_lit 480, o480 P) :: (nat_lit 482, o482 P) :: (nat_lit 483, o483 P) :: (nat_lit 484, o484 P) :: (nat_lit 485, o485 P) :: (nat_lit 486, o486 P) :: (nat_lit 489, o489 P) :: (nat_lit 496, o496 P) :: (nat_lit 498, o498 P) :: (nat_lit 499, o499 P) :: (nat_lit 501, o501 P) :: (nat_lit 502, o502 P) :: (nat_lit 503, o503 P) :: (nat_lit 504, o504 P) :: (nat_lit 505, o505 P) :: (nat_lit 508, o508 P) :: (nat_lit 515, o515 P) :: (nat_lit 517, o517 P) :: (nat_lit 518, o518 P) :: (nat_lit 520, o520 P) :: (nat_lit 521, o521 P) :: (nat_lit 522, o522 P) :: (nat_lit 523, o523 P) :: (nat_lit 524, o524 P) :: (nat_lit 527, o527 P) :: (nat_lit 534, o534 P) :: (nat_lit 536, o536 P) :: (nat_lit 537, o537 P) :: (nat_lit 539, o539 P) :: (nat_lit 540, o540 P) :: (nat_lit 541, o541 P) :: (nat_lit 542, o542 P) :: (nat_lit 543, o543 P) :: (nat_lit 546, o546 P) :: (nat_lit 553, o553 P) :: (nat_lit 555, o555 P) :: (nat_lit 556, o556 P) :: (nat_lit 558, o558 P) :: (nat_lit 559, o559 P) :: (nat_lit 560, o560 P) :: (nat_lit 561, o561 P) :: (nat_lit 562, o562 P) :: (nat_lit 565, o565 P) :: (nat_lit 572, o572 P) :: (nat_lit 574, o574 P) :: (nat_lit 575, o575 P) :: (nat_lit 577, o577 P) :: (nat_lit 578, o578 P) :: (nat_lit 579, o579 P) :: (nat_lit 580, o580 P) :: (nat_lit 581, o581 P) :: (nat_lit 584, o584 P) :: (nat_lit 591, o591 P) :: (nat_lit 593, o593 P) :: (nat_lit 594, o594 P) :: (nat_lit 596, o596 P) :: (nat_lit 597, o597 P) :: (nat_lit 598, o598 P) :: (nat_lit 599, o599 P) :: (nat_lit 600, o600 P) :: (nat_lit 603, o603 P) :: (nat_lit 610, o610 P) :: (nat_lit 612, o612 P) :: (nat_lit 613, o613 P) :: (nat_lit 615, o615 P) :: (nat_lit 616, o616 P) :: (nat_lit 617, o617 P) :: (nat_lit 618, o618 P) :: (nat_lit 619, o619 P) :: (nat_lit 622, o622 P) :: (nat_lit 629, o629 P) :: (nat_lit 631, o631 P) :: (nat_lit 632, o632 P) :: (nat_lit 634, o634 P) :: (nat_lit 635, o635 P) :: (nat_lit 636, o636 P) :: (nat_lit 637, o637 P) :: (nat_lit 638, o638 P) :: (nat_lit 641, o641 P) :: (nat_lit 648, o648 P) :: (nat_lit 650, o650 P) :: (nat_lit 651, o651 P) :: (nat_lit 653, o653 P) :: (nat_lit 654, o654 P) :: (nat_lit 655, o655 P) :: (nat_lit 656, o656 P) :: (nat_lit 657, o657 P) :: (nat_lit 660, o660 P) :: (nat_lit 667, o667 P) :: (nat_lit 669, o669 P) :: (nat_lit 670, o670 P) :: (nat_lit 672, o672 P) :: (nat_lit 673, o673 P) :: (nat_lit 674, o674 P) :: (nat_lit 675, o675 P) :: (nat_lit 676, o676 P) :: (nat_lit 679, o679 P) :: (nat_lit 686, o686 P) :: (nat_lit 688, o688 P) :: (nat_lit 689, o689 P) :: (nat_lit 691, o691 P) :: (nat_lit 692, o692 P) :: (nat_lit 693, o693 P) :: (nat_lit 694, o694 P) :: (nat_lit 695, o695 P) :: (nat_lit 698, o698 P) :: (nat_lit 705, o705 P) :: (nat_lit 707, o707 P) :: (nat_lit 708, o708 P) :: (nat_lit 710, o710 P) :: (nat_lit 711, o711 P) :: (nat_lit 712, o712 P) :: (nat_lit 713, o713 P) :: (nat_lit 714, o714 P) :: (nat_lit 717, o717 P) :: (nat_lit 724, o724 P) :: (nat_lit 726, o726 P) :: (nat_lit 727, o727 P) :: (nat_lit 729, o729 P) :: (nat_lit 730, o730 P) :: (nat_lit 731, o731 P) :: (nat_lit 732, o732 P) :: (nat_lit 733, o733 P) :: (nat_lit 736, o736 P) :: (nat_lit 743, o743 P) :: (nat_lit 745, o745 P) :: (nat_lit 746, o746 P) :: (nat_lit 748, o748 P) :: (nat_lit 749, o749 P) :: (nat_lit 750, o750 P) :: (nat_lit 751, o751 P) :: (nat_lit 752, o752 P) :: (nat_lit 755, o755 P) :: (nat_lit 762, o762 P) :: (nat_lit 764, o764 P) :: (nat_lit 765, o765 P) :: (nat_lit 767, o767 P) :: (nat_lit 768, o768 P) :: (nat_lit 769, o769 P) :: (nat_lit 770, o770 P) :: (nat_lit 771, o771 P) :: (nat_lit 774, o774 P) :: (nat_lit 781, o781 P) :: (nat_lit 783, o783 P) :: (nat_lit 784, o784 P) :: (nat_lit 786, o786 P) :: (nat_lit 787, o787 P) :: (nat_lit 788, o788 P) :: (nat_lit 789, o789 P) :: (nat_lit 790, o790 P) :: (nat_lit 793, o793 P) :: (nat_lit 795, o795 P) :: (nat_lit 796, o796 P) :: (nat_lit 798, o798 P) :: (nat_lit 799, o799 P) :: (nat_lit 800, o800 P) :: (nat_lit 802, o802 P) :: (nat_lit 803, o803 P) :: (nat_lit 805, o805 P) :: (nat_lit 806, o806 P) :: (nat_lit 807, o807 P) :: (nat_lit 809, o809 P) :: (nat_lit 810, o810 P) :: (nat_lit 812, o812 P) :: (nat_lit 813, o813 P) :: (nat_lit 814, o814 P) :: (nat_lit 817, o817 P) :: (nat_lit 818, o818 P) :: (nat_lit 819, o819 P) :: (nat_lit 822, o822 P) :: (nat_lit 823, o823 P) :: (nat_lit 824, o824 P) :: (nat_lit 827, o827 P) :: (nat_lit 828, o828 P) :: []
noncomputable abbrev envT : Env := { scope := pw.main.scope, locals := mainNs, globals := mainNs, cells := [], code := .ref 13, frame := some 14 }
noncomputable abbrev bodyT : List Stmt := behindTheImports pw
noncomputable abbrev cT : Code := .body bodyT envT
noncomputable abbrev BT0 : List Frame := [topFrame ⟨0, 0, 0, 0⟩]
noncomputable abbrev annT : Option Value := (some (.ref 6))
noncomputable abbrev sT (t : BT) (n k : Nat) (os : OsState) : SharedT := ⟨t, n, {}, #[], {}, k, os⟩
noncomputable abbrev kAs : List Addr := [2, 3, 15, 17, 18, 20, 21, 22, 29, 31, 32, 34, 35, 36, 38, 39, 41, 42, 43, 45, 46, 48, 49, 50, 51, 52, 53, 54, 57, 64, 65, 67, 68, 70, 71, 72, 74, 75, 77, 78, 79, 80, 82, 83, 85, 86, 87, 88, 90, 91, 93, 94, 95, 96, 98, 99, 101, 102, 103, 104, 106, 107, 109, 110, 111, 112, 114, 115, 117, 118, 119, 120, 122, 123, 125, 126, 127, 128, 130, 131, 133, 134, 135, 136, 138, 139, 141, 142, 143, 145, 146, 148, 149, 150, 152, 153, 155, 156, 157, 159, 160, 162, 163, 164, 166, 167, 169, 170, 171, 173, 174, 176, 177, 178, 179, 181, 182, 184, 185, 186, 187, 189, 190, 192, 193, 194, 196, 197, 199, 200, 201, 202, 203, 204, 205, 208, 215, 216, 218, 219, 221, 222, 223, 225, 226, 228, 229, 230, 232, 233, 235, 236, 237, 239, 240, 242, 243, 244, 246, 247, 249, 250, 251, 253, 254, 256, 257, 258, 259, 261, 262, 264, 265, 266, 267, 269, 270, 272, 273, 274, 276, 277, 279, 280, 281, 283, 284, 286, 287, 288, 290, 291, 293, 294, 295, 297, 298, 300, 301, 302, 303, 304, 305, 306, 309, 312, 317, 318, 319, 321, 322, 324, 325, 326, 329, 330, 331, 333, 334, 336, 337, 338, 340, 341, 343, 344, 345, 347, 348, 350, 351, 352, 354, 355, 357, 358, 359, 361, 362, 364, 365, 366, 367, 369, 370, 372, 373, 374, 376, 377, 379, 380, 381, 382, 384, 385, 387, 388, 389, 390, 391, 394, 401, 403, 404, 406, 407, 408, 409, 410, 413, 420, 422, 423, 425, 426, 427, 428, 429, 432, 439, 441, 442, 444, 445, 446, 447, 448, 451, 458, 460, 461, 463, 464, 465, 466, 467, 470, 477, 479, 480, 482, 483, 484, 485, 486, 489, 496, 498, 499, 501, 502, 503, 504, 505, 508, 515, 517, 518, 520, 521, 522, 523, 524, 527, 534, 536, 537, 539, 540, 541, 542, 543, 546, 553, 555, 556, 558, 559, 560, 561, 562, 565, 572, 574, 575, 577, 578, 579, 580, 581, 584, 591, 593, 594, 596, 597, 598, 599, 600, 603, 610, 612, 613, 615, 616, 617, 618, 619, 622, 629, 631, 632, 634, 635, 636, 637, 638, 641, 648, 650, 651, 653, 654, 655, 656, 657, 660, 667, 669, 670, 672, 673, 674, 675, 676, 679, 686, 688, 689, 691, 692, 693, 694, 695, 698, 705, 707, 708, 710, 711, 712, 713, 714, 717, 724, 726, 727, 729, 730, 731, 732, 733, 736, 743, 745, 746, 748, 749, 750, 751, 752, 755, 762, 764, 765, 767, 768, 769, 770, 771, 774, 781, 783, 784, 786, 787, 788, 789, 790, 793, 795, 796, 798, 799, 800, 802, 803, 805, 806, 807, 809, 810, 812, 813, 814, 817, 818, 819, 822, 823, 824, 827, 828]
theorem t_pre : ∀ w : World, (fun os => topGo treeTable pw w 11 annT 12 ⟨boot_heap w.params, Array.mk [], boot_drawn, boot_toks, os⟩ (topStub pw)) = fun os => some ((sT (tr0 w.params) 15 187 os).abs, ⟨denote treeTable cT, cT, ⟨0, 0, 0, 0⟩, BT0⟩) := fun w => by kernel_rfl
theorem t_block : ∀ w : World, (fun os => segRun treeTable pw w 11 annT 1 1 (sT (tr0 w.params) 15 187 os).abs (blockOf bodyT envT cT ⟨0, 0, 0, 0⟩ BT0)) = fun os => some (.next, (sT (tr0 w.params) 15 187 os).abs, cT, ⟨0, 0, 0, 0⟩) := fun w => by kernel_rfl
noncomputable abbrev st0 : List Stmt := (bodyT.drop 0).take 5
theorem t_run0 : ∀ w : World, (fun os => segRunT treeTable pw w 11 annT 1 1594 (sT (tr0 w.params) 15 187 os) (piecesOf st0 envT cT ⟨0, 0, 0, 0⟩ BT0)) = fun os => some (.next, sT (tr1 w.params) 208 425 os, cT, ⟨116, 0, 116, 8⟩) := fun w => by
  rw [PySem.W.Fast.te10110043849684766642, PySem.W.Fast.te14364793385576792824]; kernel_rfl
noncomputable abbrev st1 : List Stmt := (bodyT.drop 5).take 4
theorem t_run1 : ∀ w : World, (fun os => segRunT treeTable pw w 11 annT 1 1442 (sT (tr1 w.params) 208 425 os) (piecesOf st1 envT cT ⟨116, 0, 116, 8⟩ BT0)) = fun os => some (.next, sT (tr2 w.params) 413 710 os, cT, ⟨236, 0, 241, 46⟩) := fun w => by
  rw [PySem.W.Fast.te10110043849684766642, PySem.W.Fast.te14364793385576792824]; kernel_rfl
noncomputable abbrev st2 : List Stmt := (bodyT.drop 9).take 6
theorem t_run2 : ∀ w : World, (fun os => segRunT treeTable pw w 11 annT 1 1617 (sT (tr2 w.params) 413 710 os) (piecesOf st2 envT cT ⟨236, 0, 241, 46⟩ BT0)) = fun os => some (.next, sT (tr3 w.params) 527 866 os, cT, ⟨275, 0, 281, 63⟩) := fun w => by
  rw [PySem.W.Fast.te10110043849684766642, PySem.W.Fast.te14364793385576792824]; kernel_rfl
noncomputable abbrev st3 : List Stmt := (bodyT.drop 15).take 6
theorem t_run3 : ∀ w : World, (fun os => segRunT treeTable pw w 11 annT 1 1645 (sT (tr3 w.params) 527 866 os) (piecesOf st3 envT cT ⟨275, 0, 281, 63⟩ BT0)) = fun os => some (.next, sT (tr4 w.params) 641 1022 os, cT, ⟨317, 0, 323, 63⟩) := fun w => by
  rw [PySem.W.Fast.te10110043849684766642, PySem.W.Fast.te14364793385576792824]; kernel_rfl
noncomputable abbrev st4 : List Stmt := (bodyT.drop 21).take 6
theorem t_run4 : ∀ w : World, (fun os => segRunT treeTable pw w 11 annT 1 1645 (sT (tr4 w.params) 641 1022 os) (piecesOf st4 envT cT ⟨317, 0, 323, 63⟩ BT0)) = fun os => some (.next, sT (tr5 w.params) 755 1178 os, cT, ⟨359, 0, 365, 63⟩) := fun w => by
  rw [PySem.W.Fast.te10110043849684766642, PySem.W.Fast.te14364793385576792824]; kernel_rfl
noncomputable abbrev st5 : List Stmt := (bodyT.drop 27).take 9
theorem t_run5 : ∀ w : World, (fun os => segRunT treeTable pw w 11 annT 1 732 (sT (tr5 w.params) 755 1178 os) (piecesOf st5 envT cT ⟨359, 0, 365, 63⟩ BT0)) = fun os => some (.next, sT (tr6 w.params) 829 1280 os, cT, ⟨440, 0, 475, 80⟩) := fun w => by
  rw [PySem.W.Fast.te10110043849684766642, PySem.W.Fast.te14364793385576792824]; kernel_rfl
theorem t_fin : ∀ w : World, (fun os => topRun treeTable pw w 11 annT 2 (sT (tr6 w.params) 829 1280 os).abs ⟨doneF .next, cT, ⟨440, 0, 475, 80⟩, BT0⟩) = fun os => some ⟨hEnd w.params, Array.mk [], {}, 1280, os⟩ := fun w => by kernel_rfl
theorem t_split : bodyT = st0 ++ (st1 ++ (st2 ++ (st3 ++ (st4 ++ (st5 ++ []))))) := by kernel_rfl
theorem t_all (w : World) (os : OsState) : topRun treeTable pw w 11 annT (12 + (1 + (1594 + (1442 + (1617 + (1645 + (1645 + (732 + 2)))))))) ⟨boot_heap w.params, Array.mk [], boot_drawn, boot_toks, os⟩ (topStub pw) = some ⟨hEnd w.params, Array.mk [], {}, 1280, os⟩ :=
  go_top (congrFun (t_pre w) os) (piece_block (congrFun (t_block w) os) ((congrArg (fun z => topRun treeTable pw w 11 annT (1594 + (1442 + (1617 + (1645 + (1645 + (732 + 2)))))) (sT (tr0 w.params) 15 187 os).abs (restOf z envT cT ⟨0, 0, 0, 0⟩ BT0)) t_split).trans (piece_app (segRun_of (congrFun (t_run0 w) os)) (piece_app (segRun_of (congrFun (t_run1 w) os)) (piece_app (segRun_of (congrFun (t_run2 w) os)) (piece_app (segRun_of (congrFun (t_run3 w) os)) (piece_app (segRun_of (congrFun (t_run4 w) os)) (piece_app (segRun_of (congrFun (t_run5 w) os)) (congrFun (t_fin w) os)))))))))
/-- the text's part that the walk looks at -/
noncomputable def qT : Program := { pw with main := { pw.main with body := [0, 2, 3, 5, 7, 8, 9, 10, 11, 12, 13, 14, 15, 16, 17, 18, 19, 20, 21, 22, 23, 24, 25, 26, 27, 28, 30, 31, 32, 33, 34, 35].filterMap fun i => pw.main.body[i]? } }
noncomputable abbrev looseT : List Str := ["Rectangle", "PackingAlgorithm", "Guillotine"]
noncomputable abbrev RT : OpenRow := PySem.Challenge.rw_jb0031_01.row
noncomputable abbrev HT : Hook := kmHook K kAs (fun _ => by kernel_rfl) [360]
noncomputable abbrev XtT : Shared → Bool := fun s => xlAt qT [] s && recOk (RowW.records RT.toRowW) s
/-- many places of a heap, in rising order, looked at in one walk over its objects -/
noncomputable def alive (o : Obj) : Option Obj := Heap.get? ⟨#[o], {}⟩ 0
noncomputable def picks (as : List Addr) : List Obj → Nat → List (Option Obj) := List.rec (fun _ _ => []) (fun a _ f l i => ((l.drop (a - i)).head?).bind alive :: f (l.drop (a - i)) a) as
noncomputable def asc (as : List Addr) : Nat → Bool := List.rec (fun _ => true) (fun a _ f i => Nat.ble i a && f a) as
theorem picks_eq (l : List Obj) (as : List Addr) : ∀ i, asc as i = true → picks as (l.drop i) i = as.map fun a => (l[a]?).bind alive := by
  induction as with
  | nil => exact fun _ _ => rfl
  | cons a as ih =>
    intro i h
    have h := Bool.and_eq_true_iff.mp h
    show (((l.drop i).drop (a - i)).head?).bind alive :: picks as ((l.drop i).drop (a - i)) a = _
    rw [List.drop_drop, Nat.add_sub_cancel' (Nat.le_of_ble_eq_true h.1), ih a h.2, List.head?_drop]
    rfl
theorem get_alive (h : Heap) (a : Addr) : h.get? a = (h.objs.toList[a]?).bind alive := by
  rw [Array.getElem?_toList]
  unfold Heap.get?
  cases h.objs[a]? with
  | none => rfl
  | some o => rfl
theorem look_all {h : Heap} {as : List Addr} {x : List (Option Obj)} (ha : asc as 0 = true) (e : picks as h.objs.toList 0 = x) : as.map h.get? = x :=
  (List.map_congr_left fun a _ => get_alive h a).trans ((picks_eq h.objs.toList as 0 ha).symm.trans e)
theorem t_size : ∀ w : World, ((boot_heap w.params).isNs mainGlobals && (Array.mk [] : Array GenState).size == 0, (boot_heap w.params).objs.size, (boot_heap w.params).nsMap mainGlobals "__annotations__") = (true, 11, annT) := fun w => by kernel_rfl
section
variable (w : World)
noncomputable abbrev sE (w : World) (os : OsState) : Shared := ⟨hEnd w.params, Array.mk [], {}, 1280, os⟩
theorem l_a : (fun os => (staticsOk (importedModules pw.main.body) (boot_heap w.params) (hEnd w.params) && namesBound pw (hEnd w.params) && gensDone (sE w os) && laidKept (boot_heap w.params) (hEnd w.params))) = fun _ => true := by kernel_rfl
theorem l_b : (fun os => openSeen qT looseT (importedModules pw.main.body) XtT true (sE w os)) = fun _ => openGood qT looseT := by kernel_rfl
theorem l_k : (fun os => HT.obs (sE w os)) = fun _ => HT.val w := funext fun os => Prod.ext (look_all (h := (sE w os).heap) (as := kAs) (by kernel_rfl) (by kernel_rfl)) (by kernel_rfl)
end
theorem t_looks (w : World) : (fun os => ((staticsOk (importedModules pw.main.body) (boot_heap w.params) (hEnd w.params) && namesBound pw (hEnd w.params) && gensDone (sE w os) && laidKept (boot_heap w.params) (hEnd w.params)),
    openSeen qT looseT (importedModules pw.main.body) XtT true (sE w os), HT.obs (sE w os))) = fun _ => (true, openGood qT looseT, HT.val w) := funext fun os =>
  Prod.ext (congrFun (l_a w) os) (Prod.ext (congrFun (l_b w) os) (congrFun (l_k w) os))
theorem t_left : LeftO pw qT looseT XtT HT.obs HT.val 20000 :=
  LeftO.of_pieces (boot_open (by kernel_rfl) (by kernel_rfl) (fun s => by kernel_rfl)) t_size t_all (by kernel_rfl) t_looks
end Mine

namespace Mine
noncomputable abbrev AR (dp un : Nat) (gd : Option (List Code)) (env : Env) (outer : List Env) : Around := { handled := none, depth := dp, frames := some (env :: outer), guards := gd, units := un }
theorem AR_depth {dp un gd env outer} : (AR dp un gd env outer).depth = dp := rfl
theorem AR_units {dp un gd env outer} : (AR dp un gd env outer).units = un := rfl
noncomputable abbrev PW := PySem.Challenge.pw_jb0031_01
theorem rm (i : Nat) {d n a j : Nat} (h : autoParam (d + n < recursionLimit) Mine.aT0) (ha : autoParam (a = d + i) Mine.aT1) (hk : autoParam (Nat.ble (i + j) n = true) Mine.aT1) : a + j < recursionLimit := by
  have := Nat.le_of_ble_eq_true hk
  omega
theorem rm0 (i : Nat) {d n a : Nat} (h : autoParam (d + n < recursionLimit) Mine.aT0) (ha : autoParam (a = d + i) Mine.aT1) (hk : autoParam (Nat.ble i n = true) Mine.aT1) : a < recursionLimit := by
  have := Nat.le_of_ble_eq_true hk
  omega
theorem un (i : Nat) {u n a j : Nat} (h : autoParam (u + 20 * n < cLine) Mine.aT0) (ha : autoParam (a = u + i) Mine.aT1) (hk : autoParam (Nat.ble (i + j) (20 * n) = true) Mine.aT1) : a + j < cLine := by
  have := Nat.le_of_ble_eq_true hk
  omega
theorem un0 (i : Nat) {u n a : Nat} (h : u + 20 * n < cLine) (ha : a = u + i) (hk : Nat.ble i (20 * n) = true) : a < cLine := by
  have := Nat.le_of_ble_eq_true hk
  omega

/-- what every call of a def needs of the frame that calls -/
structure Cx (nd : Nat) (w : World) (dp un : Nat) (env : Env) (outer : List Env) (A₀ : Around) (base h₀ : Heap) (L : Addr) (m : Str → Option Value) (p : Program) (loose : List Str) (mean : ExcName → Option Value) (mg mb : Str → Option Value) (h : Heap) : Prop where
  B : Below A₀ base outer h₀
  F : Fr h₀ L h m
  X : (Mine.K w.params).In h₀
  T : Top p loose mean mg mb h₀
  hf : env.frame = some L
  hk : env.scope.kind = .function
  hd : dp + nd < recursionLimit
  hu : un + 20 * nd < cLine

noncomputable def optV (o : Option Int) (t : Tok) : Value := match o with | none => .none | some v => .int v t
theorem optRet {Q : Value → Shared → Prop} {o : Option Int} {a : Int} {t : Tok} {s : Shared} (e : o = some a) (h : ∀ t, Q (optV o t) s) : Q (.int a t) s := by subst e; exact h t
theorem optRetN {Q : Value → Shared → Prop} {o : Option Int} {s : Shared} (e : o = none) (h : ∀ t, Q (optV o t) s) : Q .none s := by subst e; exact h 0

/-- the bound of the products: an int below it is no matter for the model's memory -/
@[irreducible] noncomputable def bigI : Int := 2 ^ (2 ^ 22)
theorem bits_ltk (k : Nat) {a : Int} (h1 : -((2 : Int) ^ k) < a) (h2 : a < (2 : Int) ^ k) : Builtin.Int.intBits a ≤ k + 1 := by
  unfold Builtin.Int.intBits
  by_cases hz : (a == 0) = true
  · rw [if_pos hz]; exact Nat.zero_le _
  · rw [if_neg hz]
    have h0 : a ≠ 0 := fun e => hz (by rw [e]; rfl)
    have hp : ((2 : Int) ^ k : Int) = ((2 ^ k : Nat) : Int) := by rw [Int.natCast_pow]; rfl
    rw [hp] at h1 h2
    have h3 : a.natAbs < 2 ^ k := by
      generalize (2 ^ k : Nat) = B at h1 h2
      omega
    have h4 := (Nat.log2_lt (by omega)).mpr h3
    omega
theorem bits_lt {a : Int} (h1 : -bigI < a) (h2 : a < bigI) : Builtin.Int.intBits a ≤ 2 ^ 22 + 1 := by
  unfold bigI at h1 h2
  exact bits_ltk _ h1 h2
theorem mulOk {a b : Int} (h1 : autoParam (-bigI < a) Mine.aT2) (h2 : autoParam (a < bigI) Mine.aT2) (h3 : autoParam (-bigI < b) Mine.aT2) (h4 : autoParam (b < bigI) Mine.aT2) : IntMulOk a b := by
  have ha := bits_lt h1 h2
  have hb := bits_lt h3 h4
  have e : (2 : Nat) ^ 22 = 4194304 := by decide
  have e2 : (2 : Nat) ^ 27 = 134217728 := by decide
  have h : Builtin.Int.intTooBig (Builtin.Int.intBits a + Builtin.Int.intBits b) = false := by
    unfold Builtin.Int.intTooBig bitsLine
    exact decide_eq_false (by omega)
  unfold IntMulOk
  rw [h]
  simp
theorem mulOkN {a b : Int} (h1 : autoParam (0 ≤ a) Mine.aT3) (h2 : autoParam (a < bigI) Mine.aT3) (h3 : autoParam (0 ≤ b) Mine.aT3) (h4 : autoParam (b < bigI) Mine.aT3) : IntMulOk a b := mulOk (by omega) h2 (by omega) h4

noncomputable abbrev secDict (W H x y r : Value) (hs : Int × Int × Int × Int × Int) (ks : Tok × Tok × Tok × Tok × Tok) : List DictEntry :=
  [⟨hs.1, .str (Str.ofString "width") ks.1, W⟩, ⟨hs.2.1, .str (Str.ofString "height") ks.2.1, H⟩, ⟨hs.2.2.1, .str (Str.ofString "x") ks.2.2.1, x⟩, ⟨hs.2.2.2.1, .str (Str.ofString "y") ks.2.2.2.1, y⟩, ⟨hs.2.2.2.2, .str (Str.ofString "rid") ks.2.2.2.2, r⟩]

noncomputable abbrev boxDict (W H rot : Value) (lr sf ls : Addr) (hs : Nat → Int) (ks : Nat → Tok) : List DictEntry :=
  [⟨hs 0, .str (Str.ofString "_merge") (ks 0), .bool false⟩, ⟨hs 1, .str (Str.ofString "width") (ks 1), W⟩, ⟨hs 2, .str (Str.ofString "height") (ks 2), H⟩, ⟨hs 3, .str (Str.ofString "rot") (ks 3), rot⟩,
    ⟨hs 4, .str (Str.ofString "rectangles") (ks 4), .ref lr⟩, ⟨hs 5, .str (Str.ofString "bid") (ks 5), .none⟩, ⟨hs 6, .str (Str.ofString "_surface") (ks 6), .ref sf⟩, ⟨hs 7, .str (Str.ofString "_sections") (ks 7), .ref ls⟩]

theorem memTo {α : Type} {a : α} {l : List α} (h : a ∈ l) : List.Mem a l := h
/-- the eighteen ways, in the law's own order -/
noncomputable def BX : List Addr := [467, 581, 695, 486, 600, 714, 505, 619, 733, 524, 638, 752, 543, 657, 771, 562, 676, 790]
noncomputable def HasBX : Prop := ∃ C, C ∈ BX
theorem bx_all {P : Addr → Bool} (h : BX.all P = true) {C : Addr} (hC : C ∈ BX) : P C = true := List.all_eq_true.mp h C hC
theorem bx_find0 {K : Frag} {name : Str} (h : BX.all (fun C => match findIn K (.ref C) name with | some none => true | _ => false) = true) {C : Addr} (hC : C ∈ BX) : findIn K (.ref C) name = some none := by
  have z := bx_all h hC
  split at z
  · assumption
  · cases z
theorem bx_findF {K : Frag} {name : Str} {f : Addr} (h : BX.all (fun C => match findIn K (.ref C) name with | some (some (.ref g)) => Nat.beq g f | _ => false) = true) {C : Addr} (hC : C ∈ BX) : findIn K (.ref C) name = some (some (.ref f)) := by
  have z := bx_all h hC
  split at z
  · rename_i g e
    rw [e, Nat.eq_of_beq_eq_true z]
  · cases z
theorem bx_findB {K : Frag} {name : Str} {b : String} (h : BX.all (fun C => match findIn K (.ref C) name with | some (some (.builtin g)) => g == b | _ => false) = true) {C : Addr} (hC : C ∈ BX) : findIn K (.ref C) name = some (some (.builtin b)) := by
  have z := bx_all h hC
  split at z
  · rename_i g e
    rw [e, beq_iff_eq.mp z]
  · cases z
noncomputable abbrev gNames : List Str := [Str.ofString "_merge", Str.ofString "width", Str.ofString "height", Str.ofString "rot", Str.ofString "rectangles", Str.ofString "bid", Str.ofString "_surface", Str.ofString "_sections", Str.ofString "__init__", Str.ofString "_add_section", Str.ofString "_split_horizontal", Str.ofString "_split_vertical", Str.ofString "_select_fittest_section", Str.ofString "add_rect", Str.ofString "fitness", Str.ofString "reset", Str.ofString "rect_list", Str.ofString "__iter__", Str.ofString "_split", Str.ofString "_section_fitness"]
noncomputable abbrev dNames : List Str := [Str.ofString "_merge", Str.ofString "width", Str.ofString "height", Str.ofString "rot", Str.ofString "rectangles", Str.ofString "bid", Str.ofString "_surface", Str.ofString "_sections"]
noncomputable abbrev tNames : List Str := [Str.ofString "_merge", Str.ofString "width", Str.ofString "height", Str.ofString "rot", Str.ofString "rectangles", Str.ofString "bid", Str.ofString "_surface", Str.ofString "_sections"]
noncomputable abbrev mNames : List (Str × Addr) := [(Str.ofString "__init__", 325), (Str.ofString "_add_section", 330), (Str.ofString "_split_horizontal", 337), (Str.ofString "_split_vertical", 344), (Str.ofString "_select_fittest_section", 365), (Str.ofString "add_rect", 373), (Str.ofString "fitness", 380), (Str.ofString "reset", 388), (Str.ofString "rect_list", 280), (Str.ofString "__iter__", 236)]
theorem bx_gets {w : World} : BX.all (fun C => gNames.all fun n => plainGet (Mine.K w.params) C n) = true := by kernel_rfl
theorem bx_finds {w : World} : BX.all (fun C => dNames.all fun n => match findIn (Mine.K w.params) (.ref C) n with | some none => true | _ => false) = true := by kernel_rfl
theorem bx_takes {w : World} : BX.all (fun C => tNames.all fun n => match takerIn (Mine.K w.params) C n with | some none => true | _ => false) = true := by kernel_rfl
theorem bx_meths {w : World} : BX.all (fun C => mNames.all fun n => match findIn (Mine.K w.params) (.ref C) n.1 with | some (some (.ref g)) => Nat.beq g n.2 | _ => false) = true := by kernel_rfl
theorem bx_d {w : World} (i : Nat) {n : Str} {C : Addr} (hC : C ∈ BX) (hn : dNames[i]? = some n) : findIn (Mine.K w.params) (.ref C) n = some none := by
  have z := List.all_eq_true.mp (bx_all (P := fun C => dNames.all fun n => match findIn (Mine.K w.params) (.ref C) n with | some none => true | _ => false) bx_finds hC) n (List.mem_of_getElem? hn)
  split at z
  · assumption
  · cases z
theorem bx_t {w : World} (i : Nat) {n : Str} {C : Addr} (hC : C ∈ BX) (hn : tNames[i]? = some n) : takerIn (Mine.K w.params) C n = some none := by
  have z := List.all_eq_true.mp (bx_all (P := fun C => tNames.all fun n => match takerIn (Mine.K w.params) C n with | some none => true | _ => false) bx_takes hC) n (List.mem_of_getElem? hn)
  split at z
  · assumption
  · cases z
theorem bx_g {w : World} (i : Nat) {n : Str} {C : Addr} (hC : C ∈ BX) (hn : gNames[i]? = some n) : plainGet (Mine.K w.params) C n = true := List.all_eq_true.mp (bx_all (P := fun C => gNames.all fun n => plainGet (Mine.K w.params) C n) bx_gets hC) _ (List.mem_of_getElem? hn)
theorem bx_m {w : World} (i : Nat) {n : Str} {f : Addr} {C : Addr} (hC : C ∈ BX) (hn : mNames[i]? = some (n, f)) : findIn (Mine.K w.params) (.ref C) n = some (some (.ref f)) := by
  have z := List.all_eq_true.mp (bx_all (P := fun C => mNames.all fun n => match findIn (Mine.K w.params) (.ref C) n.1 with | some (some (.ref g)) => Nat.beq g n.2 | _ => false) bx_meths hC) (n, f) (List.mem_of_getElem? hn)
  split at z
  · rename_i g e
    rw [e, Nat.eq_of_beq_eq_true z]
  · cases z
section
variable {w : World} {C : Addr} (hC : autoParam (C ∈ BX) Mine.aT0)
include hC
theorem bx_dmerge : findIn (Mine.K w.params) (.ref C) (Str.ofString "_merge") = some none := bx_d 0 hC rfl
theorem bx_dwidth : findIn (Mine.K w.params) (.ref C) (Str.ofString "width") = some none := bx_d 1 hC rfl
theorem bx_dheight : findIn (Mine.K w.params) (.ref C) (Str.ofString "height") = some none := bx_d 2 hC rfl
theorem bx_drot : findIn (Mine.K w.params) (.ref C) (Str.ofString "rot") = some none := bx_d 3 hC rfl
theorem bx_drectangles : findIn (Mine.K w.params) (.ref C) (Str.ofString "rectangles") = some none := bx_d 4 hC rfl
theorem bx_dbid : findIn (Mine.K w.params) (.ref C) (Str.ofString "bid") = some none := bx_d 5 hC rfl
theorem bx_dsurface : findIn (Mine.K w.params) (.ref C) (Str.ofString "_surface") = some none := bx_d 6 hC rfl
theorem bx_dsections : findIn (Mine.K w.params) (.ref C) (Str.ofString "_sections") = some none := bx_d 7 hC rfl
theorem bx_minit : findIn (Mine.K w.params) (.ref C) (Str.ofString "__init__") = some (some (.ref 325)) := bx_m 0 hC rfl
theorem bx_madd_section : findIn (Mine.K w.params) (.ref C) (Str.ofString "_add_section") = some (some (.ref 330)) := bx_m 1 hC rfl
theorem bx_msplit_horizontal : findIn (Mine.K w.params) (.ref C) (Str.ofString "_split_horizontal") = some (some (.ref 337)) := bx_m 2 hC rfl
theorem bx_msplit_vertical : findIn (Mine.K w.params) (.ref C) (Str.ofString "_split_vertical") = some (some (.ref 344)) := bx_m 3 hC rfl
theorem bx_mselect_fittest_section : findIn (Mine.K w.params) (.ref C) (Str.ofString "_select_fittest_section") = some (some (.ref 365)) := bx_m 4 hC rfl
theorem bx_madd_rect : findIn (Mine.K w.params) (.ref C) (Str.ofString "add_rect") = some (some (.ref 373)) := bx_m 5 hC rfl
theorem bx_mfitness : findIn (Mine.K w.params) (.ref C) (Str.ofString "fitness") = some (some (.ref 380)) := bx_m 6 hC rfl
theorem bx_mreset : findIn (Mine.K w.params) (.ref C) (Str.ofString "reset") = some (some (.ref 388)) := bx_m 7 hC rfl
theorem bx_mrect_list : findIn (Mine.K w.params) (.ref C) (Str.ofString "rect_list") = some (some (.ref 280)) := bx_m 8 hC rfl
theorem bx_miter : findIn (Mine.K w.params) (.ref C) (Str.ofString "__iter__") = some (some (.ref 236)) := bx_m 9 hC rfl
theorem bx_setattr : findIn (Mine.K w.params) (.ref C) (Str.ofString "__setattr__") = some (some (.builtin "object.__setattr__")) := bx_findB (by kernel_rfl) hC
theorem bx_dict : hasDictIn (Mine.K w.params) C = true := bx_all (P := fun C => hasDictIn (Mine.K w.params) C) (by kernel_rfl) hC
theorem bx_makes : makesIn (Mine.K w.params) C = true := bx_all (P := fun C => makesIn (Mine.K w.params) C) (by kernel_rfl) hC
theorem bx_over : plainOver (Mine.K w.params) C = true := bx_all (P := fun C => plainOver (Mine.K w.params) C) (by kernel_rfl) hC
theorem bx_tmerge : takerIn (Mine.K w.params) C (Str.ofString "_merge") = some none := bx_t 0 hC rfl
theorem bx_twidth : takerIn (Mine.K w.params) C (Str.ofString "width") = some none := bx_t 1 hC rfl
theorem bx_theight : takerIn (Mine.K w.params) C (Str.ofString "height") = some none := bx_t 2 hC rfl
theorem bx_trot : takerIn (Mine.K w.params) C (Str.ofString "rot") = some none := bx_t 3 hC rfl
theorem bx_trectangles : takerIn (Mine.K w.params) C (Str.ofString "rectangles") = some none := bx_t 4 hC rfl
theorem bx_tbid : takerIn (Mine.K w.params) C (Str.ofString "bid") = some none := bx_t 5 hC rfl
theorem bx_tsurface : takerIn (Mine.K w.params) C (Str.ofString "_surface") = some none := bx_t 6 hC rfl
theorem bx_tsections : takerIn (Mine.K w.params) C (Str.ofString "_sections") = some none := bx_t 7 hC rfl
theorem bx_gmerge : plainGet (Mine.K w.params) C (Str.ofString "_merge") = true := bx_g 0 hC rfl
theorem bx_gwidth : plainGet (Mine.K w.params) C (Str.ofString "width") = true := bx_g 1 hC rfl
theorem bx_gheight : plainGet (Mine.K w.params) C (Str.ofString "height") = true := bx_g 2 hC rfl
theorem bx_grot : plainGet (Mine.K w.params) C (Str.ofString "rot") = true := bx_g 3 hC rfl
theorem bx_grectangles : plainGet (Mine.K w.params) C (Str.ofString "rectangles") = true := bx_g 4 hC rfl
theorem bx_gbid : plainGet (Mine.K w.params) C (Str.ofString "bid") = true := bx_g 5 hC rfl
theorem bx_gsurface : plainGet (Mine.K w.params) C (Str.ofString "_surface") = true := bx_g 6 hC rfl
theorem bx_gsections : plainGet (Mine.K w.params) C (Str.ofString "_sections") = true := bx_g 7 hC rfl
theorem bx_ginit : plainGet (Mine.K w.params) C (Str.ofString "__init__") = true := bx_g 8 hC rfl
theorem bx_gadd_section : plainGet (Mine.K w.params) C (Str.ofString "_add_section") = true := bx_g 9 hC rfl
theorem bx_gsplit_horizontal : plainGet (Mine.K w.params) C (Str.ofString "_split_horizontal") = true := bx_g 10 hC rfl
theorem bx_gsplit_vertical : plainGet (Mine.K w.params) C (Str.ofString "_split_vertical") = true := bx_g 11 hC rfl
theorem bx_gselect_fittest_section : plainGet (Mine.K w.params) C (Str.ofString "_select_fittest_section") = true := bx_g 12 hC rfl
theorem bx_gadd_rect : plainGet (Mine.K w.params) C (Str.ofString "add_rect") = true := bx_g 13 hC rfl
theorem bx_gfitness : plainGet (Mine.K w.params) C (Str.ofString "fitness") = true := bx_g 14 hC rfl
theorem bx_greset : plainGet (Mine.K w.params) C (Str.ofString "reset") = true := bx_g 15 hC rfl
theorem bx_grect_list : plainGet (Mine.K w.params) C (Str.ofString "rect_list") = true := bx_g 16 hC rfl
theorem bx_giter : plainGet (Mine.K w.params) C (Str.ofString "__iter__") = true := bx_g 17 hC rfl
theorem bx_gsplit : plainGet (Mine.K w.params) C (Str.ofString "_split") = true := bx_g 18 hC rfl
theorem bx_gsection_fitness : plainGet (Mine.K w.params) C (Str.ofString "_section_fitness") = true := bx_g 19 hC rfl
end
noncomputable abbrev Q4 := Int × Int × Int × Int
/-- the ledger bears a section (x, y, width, height) at v -/
inductive SecAt (led : List (Addr × Obj)) (v : Value) (q : Q4) : Prop
  | mk (a d : Addr) (hs : Int × Int × Int × Int × Int) (ks : Tok × Tok × Tok × Tok × Tok) (t1 t2 t3 t4 : Tok) (rid : Value) (e : v = .ref a) (m1 : (a, instObj 203 d) ∈ led) (m2 : (d, dictOf (secDict (.int q.2.2.1 t1) (.int q.2.2.2 t2) (.int q.1 t3) (.int q.2.1 t4) rid hs ks) 5) ∈ led)
noncomputable def SecsIn (led : List (Addr × Obj)) : List Value → List Q4 → Prop
  | [], [] => True
  | v :: vs, q :: qs => SecAt led v q ∧ SecsIn led vs qs
  | _, _ => False
theorem SecAt.mono {led led' : List (Addr × Obj)} {v : Value} {q : Q4} (h : SecAt led v q) (hs : ∀ p ∈ led, p ∈ led') : SecAt led' v q := by
  obtain ⟨a, d, h1, k1, t1, t2, t3, t4, r, e, m1, m2⟩ := h
  exact ⟨a, d, h1, k1, t1, t2, t3, t4, r, e, hs _ m1, hs _ m2⟩
theorem SecsIn.mono {led led' : List (Addr × Obj)} (hs : ∀ p ∈ led, p ∈ led') : ∀ {vs : List Value} {qs : List Q4}, SecsIn led vs qs → SecsIn led' vs qs
  | [], [], _ => trivial
  | _ :: _, _ :: _, h => ⟨h.1.mono hs, SecsIn.mono hs h.2⟩
  | [], _ :: _, h => h.elim
  | _ :: _, [], h => h.elim
theorem SecsIn.append {led : List (Addr × Obj)} : ∀ {vs us : List Value} {qs rs : List Q4}, SecsIn led vs qs → SecsIn led us rs → SecsIn led (vs ++ us) (qs ++ rs)
  | [], _, [], _, _, h => h
  | _ :: _, _, _ :: _, _, h, k => ⟨h.1, SecsIn.append h.2 k⟩
  | [], _, _ :: _, _, h, _ => h.elim
  | _ :: _, _, [], _, h, _ => h.elim
theorem SecsIn.length {led : List (Addr × Obj)} : ∀ {vs : List Value} {qs : List Q4}, SecsIn led vs qs → vs.length = qs.length
  | [], [], _ => rfl
  | _ :: _, _ :: _, h => congrArg (· + 1) (SecsIn.length h.2)
  | [], _ :: _, h => h.elim
  | _ :: _, [], h => h.elim
theorem tailAll {p : Addr × Obj} {news : List (Addr × Obj)} {P : Addr × Obj → Prop} (h : ∀ q ∈ p :: news, P q) : ∀ q ∈ news, P q := fun q hq => h q (List.mem_cons_of_mem _ hq)
theorem neOfLt {l d : Addr} {news : List (Addr × Obj)} (h : ∀ q ∈ news, q.1 < d) : ∀ q ∈ news, q.1 ≠ d := fun q hq => Nat.ne_of_lt (h q hq)
theorem k_init : (fun (_ : Params → Frag) (_ : OpenLaw) => True) Mine.K PySem.Challenge.rw_jb0031_01 := by k_fill; trivial
end Mine
local macro_rules | `(tactic| k_room) => `(tactic| (first | exact Mine.rm 0 | exact Mine.rm 1 | exact Mine.rm0 0 | exact Mine.rm0 1 | exact Mine.rm 2 | exact Mine.rm0 2 | ((try simp only [depth_under_make, depth_under_kw, depth_in1, depth_deeper, depth_caller, Mine.AR_depth]); omega)))
local macro_rules | `(tactic| ktr_room) => `(tactic| k_room)
local macro_rules | `(tactic| k_units) => `(tactic| (first | exact Mine.un 0 | exact Mine.un 3 | exact Mine.un 1 | (have hcL9 := cLine_is; (try simp only [units_in1, units_deeper, Around.mark_units, units_caller, Mine.AR_units]); omega)))
local macro_rules | `(tactic| mul_fits) => `(tactic| first | exact Mine.mulOkN | exact Mine.mulOk)
local macro_rules | `(tactic| ktr_enter) => return Mine.sEnter "code_def" true false
local macro_rules | `(tactic| k_enter) => Mine.sEnter2 "code_def" "code_defC"
local macro_rules | `(tactic| k_all) => `(tactic| with_reducible assumption)
local macro_rules | `(tactic| ktr_rel) => `(tactic| exact ⟨by k_asm, by k_asm, by k_asm, by k_asm, by first | rfl | assumption, by first | rfl | assumption, by k_room, by k_units⟩)
local macro_rules | `(tactic| walk_at "exec While BoolOp") => `(tactic| (k_here; k_dflt (refine whl_start 100 ?_)))
local macro_rules | `(tactic| k_mem) => `(tactic| first | with_reducible assumption | (refine' Mine.memTo ?_; with_reducible assumption))
local macro_rules | `(tactic| k_is) => `(tactic| ((have hC9 : Mine.HasBX := ⟨_, by with_reducible assumption⟩); clear hC9; with_reducible $(⟨Mine.sAny "Mine.bx_dmerge Mine.bx_dwidth Mine.bx_dheight Mine.bx_drot Mine.bx_drectangles Mine.bx_dbid Mine.bx_dsurface Mine.bx_dsections Mine.bx_minit Mine.bx_madd_section Mine.bx_msplit_horizontal Mine.bx_msplit_vertical Mine.bx_mselect_fittest_section Mine.bx_madd_rect Mine.bx_mfitness Mine.bx_mreset Mine.bx_mrect_list Mine.bx_miter Mine.bx_setattr Mine.bx_dict Mine.bx_makes Mine.bx_over Mine.bx_tmerge Mine.bx_twidth Mine.bx_theight Mine.bx_trot Mine.bx_trectangles Mine.bx_tbid Mine.bx_tsurface Mine.bx_tsections Mine.bx_gmerge Mine.bx_gwidth Mine.bx_gheight Mine.bx_grot Mine.bx_grectangles Mine.bx_gbid Mine.bx_gsurface Mine.bx_gsections Mine.bx_ginit Mine.bx_gadd_section Mine.bx_gsplit_horizontal Mine.bx_gsplit_vertical Mine.bx_gselect_fittest_section Mine.bx_gadd_rect Mine.bx_gfitness Mine.bx_greset Mine.bx_grect_list Mine.bx_giter Mine.bx_gsplit Mine.bx_gsection_fitness"⟩):tactic))
theorem Mine.k_init_0 : (fun (_ : Params → Frag) (_ : OpenLaw) => True) Mine.K PySem.Challenge.rw_jb0031_01 := by k_fill; trivial
namespace Mine
noncomputable def fitBssf (W H w h : Int) : Option Int := if w > W ∨ h > H then none else some (min (W - w) (H - h))
noncomputable def fitBlsf (W H w h : Int) : Option Int := if w > W ∨ h > H then none else some (max (W - w) (H - h))
noncomputable def fitBaf (W H w h : Int) : Option Int := if w > W ∨ h > H then none else some (W * H - w * h)
section
variable {w : World} {dp un : Nat} {gd : Option (List Code)} {env : Env} {outer : List Env} {A₀ : Around} {base h₀ : Heap} {L : Addr} {m : Str → Option Value} {p : Program} {loose : List Str} {mean : ExcName → Option Value} {mg mb : Str → Option Value} {news : List (Addr × Obj)} {s : Shared} {Q E : Value → Shared → Prop}
theorem fit_bssf {box : Value} {sec dx : Addr} {W H x y r : Value} {Wi Hi wi hi : Int} {t1 t2 t3 t4 : Tok} {hs ks} (C : Cx 3 w dp un env outer A₀ base h₀ L m p loose mean mg mb s.heap) (N : News h₀ L s.heap news)
    (h1 : (sec, instObj 203 dx) ∈ news) (h2 : (dx, dictOf (secDict (.int Wi t1) (.int Hi t2) x y r hs ks) 5) ∈ news)
    (ret : ∀ t h' tk', Fr h₀ L h' m → News h₀ L h' news → Q (optV (fitBssf Wi Hi wi hi) t) { s with heap := h', toks := tk' }) :
    wpAny (model PW w) (AR dp un gd env outer) (call (.ref 445) [box, .ref sec, .int wi t3, .int hi t4]) Q E s := by
  obtain ⟨B, F, X, T, hf, hk, hdp, hun⟩ := C
  refine wpAny_call ?_
  k_dflt k_enter
  k_steps
  all_goals first
    | (refine optRetN ?_ (fun t => ret t _ _ (by k_asm) (by k_asm)); unfold fitBssf; rw [if_pos (by omega)])
    | (refine optRet ?_ (fun t => ret t _ _ (by k_asm) (by k_asm)); unfold fitBssf; rw [if_neg (by omega)]; exact congrArg some (by first | rfl | omega))
theorem fit_blsf {box : Value} {sec dx : Addr} {W H x y r : Value} {Wi Hi wi hi : Int} {t1 t2 t3 t4 : Tok} {hs ks} (C : Cx 3 w dp un env outer A₀ base h₀ L m p loose mean mg mb s.heap) (N : News h₀ L s.heap news)
    (h1 : (sec, instObj 203 dx) ∈ news) (h2 : (dx, dictOf (secDict (.int Wi t1) (.int Hi t2) x y r hs ks) 5) ∈ news)
    (ret : ∀ t h' tk', Fr h₀ L h' m → News h₀ L h' news → Q (optV (fitBlsf Wi Hi wi hi) t) { s with heap := h', toks := tk' }) :
    wpAny (model PW w) (AR dp un gd env outer) (call (.ref 426) [box, .ref sec, .int wi t3, .int hi t4]) Q E s := by
  obtain ⟨B, F, X, T, hf, hk, hdp, hun⟩ := C
  refine wpAny_call ?_
  k_dflt k_enter
  k_steps
  all_goals first
    | (refine optRetN ?_ (fun t => ret t _ _ (by k_asm) (by k_asm)); unfold fitBlsf; rw [if_pos (by omega)])
    | (refine optRet ?_ (fun t => ret t _ _ (by k_asm) (by k_asm)); unfold fitBlsf; rw [if_neg (by omega)]; exact congrArg some (by first | rfl | omega))
theorem fit_baf {box : Value} {sec dx : Addr} {W H x y r : Value} {Wi Hi wi hi : Int} {t1 t2 t3 t4 : Tok} {hs ks} (C : Cx 3 w dp un env outer A₀ base h₀ L m p loose mean mg mb s.heap) (N : News h₀ L s.heap news)
    (hb1 : 0 ≤ Wi) (hb2 : Wi < bigI) (hb3 : 0 ≤ Hi) (hb4 : Hi < bigI) (hb5 : 0 < wi) (hb6 : 0 < hi)
    (h1 : (sec, instObj 203 dx) ∈ news) (h2 : (dx, dictOf (secDict (.int Wi t1) (.int Hi t2) x y r hs ks) 5) ∈ news)
    (ret : ∀ t h' tk', Fr h₀ L h' m → News h₀ L h' news → Q (optV (fitBaf Wi Hi wi hi) t) { s with heap := h', toks := tk' }) :
    wpAny (model PW w) (AR dp un gd env outer) (call (.ref 407) [box, .ref sec, .int wi t3, .int hi t4]) Q E s := by
  obtain ⟨B, F, X, T, hf, hk, hdp, hun⟩ := C
  refine wpAny_call ?_
  k_dflt k_enter
  k_steps
  all_goals first
    | (refine optRetN ?_ (fun t => ret t _ _ (by k_asm) (by k_asm)); unfold fitBaf; rw [if_pos (by omega)])
    | (refine optRet ?_ (fun t => ret t _ _ (by k_asm) (by k_asm)); unfold fitBaf; rw [if_neg (by omega)])
end
end Mine
namespace Mine
section
variable {w : World} {dp un : Nat} {gd : Option (List Code)} {env : Env} {outer : List Env} {A₀ : Around} {base h₀ : Heap} {L : Addr} {m : Str → Option Value} {p : Program} {loose : List Str} {mean : ExcName → Option Value} {mg mb : Str → Option Value} {news : List (Addr × Obj)} {s : Shared} {Q E : Value → Shared → Prop}
theorem rect_new5 {x y Wi Hi : Int} {t1 t2 t3 t4 : Tok} {rid : Value} (C : autoParam (Cx 3 w dp un env outer A₀ base h₀ L m p loose mean mg mb s.heap) Mine.aT4) (N : autoParam (News h₀ L s.heap news) Mine.aT5) (hW : autoParam (0 ≤ Wi) Mine.aT2) (hH : autoParam (0 ≤ Hi) Mine.aT2)
    (ret : ∀ (x' d' : Addr) hs ks h' tk', Fr h₀ L h' m → News h₀ L h' ((x', instObj 203 d') :: (d', dictOf (secDict (.int Wi t3) (.int Hi t4) (.int x t1) (.int y t2) rid hs ks) 5) :: news) → (∀ p ∈ news, p.1 < d') → @LT.lt Nat _ d' x' → Q (.ref x') { s with heap := h', toks := tk' }) :
    wpAny (model PW w) (AR dp un gd env outer) (call (.ref 203) [.int x t1, .int y t2, .int Wi t3, .int Hi t4, rid]) Q E s := by
  obtain ⟨B, F, X, T, hf, hk, hdp, hun⟩ := C
  k_steps
  all_goals exact ret _ _ (_, _, _, _, _) (_, _, _, _, _) _ _ (by k_asm) (by k_asm) (by assumption) (by assumption)
theorem rect_new4 {x y Wi Hi : Int} {t1 t2 t3 t4 : Tok} (C : autoParam (Cx 3 w dp un env outer A₀ base h₀ L m p loose mean mg mb s.heap) Mine.aT4) (N : autoParam (News h₀ L s.heap news) Mine.aT5) (hW : autoParam (0 ≤ Wi) Mine.aT2) (hH : autoParam (0 ≤ Hi) Mine.aT2)
    (ret : ∀ (x' d' : Addr) hs ks h' tk', Fr h₀ L h' m → News h₀ L h' ((x', instObj 203 d') :: (d', dictOf (secDict (.int Wi t3) (.int Hi t4) (.int x t1) (.int y t2) .none hs ks) 5) :: news) → (∀ p ∈ news, p.1 < d') → @LT.lt Nat _ d' x' → Q (.ref x') { s with heap := h', toks := tk' }) :
    wpAny (model PW w) (AR dp un gd env outer) (call (.ref 203) [.int x t1, .int y t2, .int Wi t3, .int Hi t4]) Q E s := by
  obtain ⟨B, F, X, T, hf, hk, hdp, hun⟩ := C
  k_steps
  all_goals exact ret _ _ (_, _, _, _, _) (_, _, _, _, _) _ _ (by k_asm) (by k_asm) (by assumption) (by assumption)
end
end Mine
local macro_rules | `(tactic| walk_at "call ref") => Mine.sCall "Mine.rect_new5" "x' d' hs' ks' h' tk' F' N' l1 l2" true
local macro_rules | `(tactic| walk_at "call ref") => Mine.sCall "Mine.rect_new4" "x' d' hs' ks' h' tk' F' N' l1 l2" true
namespace Mine
section
variable {w : World} {dp un : Nat} {gd : Option (List Code)} {env : Env} {outer : List Env} {A₀ : Around} {base h₀ : Heap} {L : Addr} {m : Str → Option Value} {p : Program} {loose : List Str} {mean : ExcName → Option Value} {mg mb : Str → Option Value} {news : List (Addr × Obj)} {s : Shared} {Q E : Value → Shared → Prop}
/-- _add_section upon a box that does not merge: the section goes to the list's end, its number is nought -/
theorem add_section {C b db ls lr sf sec dx : Addr} {Wb Hb rotb : Value} {hb kb : _} {Wi Hi xi yi rid : Value} {hs ks : _} {secs : List Value} {ns : Nat}
    (hC : autoParam (C ∈ BX) Mine.aT0) (Cc : autoParam (Cx 3 w dp un env outer A₀ base h₀ L m p loose mean mg mb s.heap) Mine.aT4) 
    (N : autoParam (News h₀ L s.heap ((sec, instObj 203 dx) :: (dx, dictOf (secDict Wi Hi xi yi rid hs ks) 5) :: (ls, listOf secs.toArray ns) :: news)) Mine.aT5)
    (hsz : autoParam (secs.length ≤ 1000) Mine.aT6) (hl : autoParam (∀ p ∈ (ls, listOf secs.toArray ns) :: news, p.1 < dx) Mine.aT0) (hx : autoParam (@LT.lt Nat _ dx sec) Mine.aT0) (hn : autoParam (∀ p ∈ news, p.1 ≠ ls) Mine.aT7)
    (h1 : autoParam ((b, instObj C db) ∈ news) Mine.aT8) (h2 : autoParam ((db, dictOf (boxDict Wb Hb rotb lr sf ls hb kb) 8) ∈ news) Mine.aT8)
    (ret : ∀ t h' tk', Fr h₀ L h' m → News h₀ L h' ((ls, listOf (secs ++ [Value.ref sec]).toArray (ns + 1)) :: (sec, instObj 203 dx) :: (dx, dictOf (secDict Wi Hi xi yi (.int 0 t) hs ks) 5) :: news) → Q .none { s with heap := h', toks := tk' }) :
    wpAny (model PW w) (AR dp un gd env outer) (call (.ref 330) [.ref b, .ref sec]) Q E s := by
  obtain ⟨B, F, X, T, hf, hk, hdp, hun⟩ := Cc
  have hl' := tailAll hl
  have hls : @LT.lt Nat _ ls dx := hl _ (.head _)
  clear hl
  refine wpAny_call ?_
  k_dflt k_enter
  k_steps
  all_goals exact ret _ _ _ (by k_asm) (cb_drop (by k_asm) (by
    rw [List.push_toArray]
    intro q hq
    rcases List.mem_cons.mp hq with rfl | hq
    · exact .tail _ (.tail _ (.tail _ (.head _)))
    rcases List.mem_cons.mp hq with rfl | hq
    · exact .tail _ (.head _)
    rcases List.mem_cons.mp hq with rfl | hq
    · exact .tail _ (.tail _ (.head _))
    · exact .tail _ (.tail _ (.tail _ (.tail _ hq)))))
end
end Mine
local macro_rules | `(tactic| walk_at "call ref") => Mine.sCall "Mine.add_section" "t' h' tk' F' N'" false
namespace Mine
/-- the two cuts: the pieces in the order in which they are added -/
noncomputable def cutH (x y W H w h : Int) : List Q4 := (if h < H then [(x, y + h, W, H - h)] else []) ++ (if w < W then [(x + w, y, W - w, h)] else [])
noncomputable def cutV (x y W H w h : Int) : List Q4 := (if h < H then [(x, y + h, w, H - h)] else []) ++ (if w < W then [(x + w, y, W - w, H)] else [])
theorem lt2 {L1 : List (Addr × Obj)} {x d : Addr} {ox od : Obj} (h : ∀ q ∈ L1, q.1 < d) (h2 : @LT.lt Nat _ d x) : ∀ p ∈ [(x, ox), (d, od)], ∀ q ∈ L1, @LT.lt Nat _ q.1 p.1 := fun p hp q hq => by
  rcases List.mem_cons.mp hp with rfl | hp
  · exact Nat.lt_trans (h q hq) h2
  · rw [List.mem_singleton.mp hp]; exact h q hq
theorem end1 {h₀ h : Heap} {L ls : Addr} {s1 s2 s3 : List Value} {n : Nat} {a b news : List (Addr × Obj)} (N : News h₀ L h ((ls, listOf ((s1 ++ s2) ++ s3).toArray n) :: (a ++ (b ++ news)))) : News h₀ L h ((ls, listOf (s1 ++ (s2 ++ s3)).toArray n) :: ((a ++ b) ++ news)) := by
  rw [List.append_assoc, ← List.append_assoc a b news] at N; exact N
theorem end0 {h₀ h : Heap} {L ls : Addr} {secs : List Value} {n : Nat} {news : List (Addr × Obj)} (N : News h₀ L h ((ls, listOf secs.toArray n) :: news)) : News h₀ L h ((ls, listOf (secs ++ []).toArray n) :: ([] ++ news)) := by
  rw [List.append_nil]; exact N
theorem ltA {ls : Addr} {o o' : Obj} {nw2 nw1 news : List (Addr × Obj)} (h1 : ∀ p ∈ nw1, ∀ q ∈ (ls, o) :: news, @LT.lt Nat _ q.1 p.1) (h2 : ∀ p ∈ nw2, ∀ q ∈ (ls, o') :: (nw1 ++ news), @LT.lt Nat _ q.1 p.1) : ∀ p ∈ nw2 ++ nw1, ∀ q ∈ (ls, o) :: news, @LT.lt Nat _ q.1 p.1 := fun p hp q hq => by
  rcases List.mem_append.mp hp with hp | hp
  · rcases List.mem_cons.mp hq with rfl | hq
    · exact h2 p hp (ls, o') (.head _)
    · exact h2 p hp q (.tail _ (List.mem_append_right _ hq))
  · exact h1 p hp q hq
theorem neA {ls : Addr} {o : Obj} {nw news : List (Addr × Obj)} (lt : ∀ p ∈ nw, ∀ q ∈ (ls, o) :: news, @LT.lt Nat _ q.1 p.1) (hn : ∀ p ∈ news, p.1 ≠ ls) : ∀ p ∈ nw ++ news, p.1 ≠ ls := fun p hp => (List.mem_append.mp hp).elim (fun h => Nat.ne_of_gt (lt p h _ (.head _))) (hn p)
noncomputable def hBody : List Stmt := match inAt 7 2 with | .FunctionDef _ _ b _ _ _ _ _ _ _ => b | _ => []
noncomputable def hScope : Scope := match inAt 7 2 with | .FunctionDef _ _ _ _ _ _ s _ _ _ => s | _ => default
noncomputable def vBody : List Stmt := match inAt 7 3 with | .FunctionDef _ _ b _ _ _ _ _ _ _ => b | _ => []
noncomputable def vScope : Scope := match inAt 7 3 with | .FunctionDef _ _ _ _ _ _ s _ _ _ => s | _ => default
noncomputable def hAt (i : Nat) : Stmt := hBody.getD i (.Pass ⟨0, 0, 0, 0⟩)
noncomputable def vAt (i : Nat) : Stmt := vBody.getD i (.Pass ⟨0, 0, 0, 0⟩)
noncomputable abbrev HE (L : Addr) : Env := envOf (Str.ofString "Guillotine._split_horizontal") hScope L 337 (.ref 336)
noncomputable abbrev VE (L : Addr) : Env := envOf (Str.ofString "Guillotine._split_vertical") vScope L 344 (.ref 343)
section
variable {w : World} {dp un : Nat} {gd : Option (List Code)} {env : Env} {outer : List Env} {A₀ : Around} {base h₀ : Heap} {L : Addr} {m : Str → Option Value} {p : Program} {loose : List Str} {mean : ExcName → Option Value} {mg mb : Str → Option Value} {news : List (Addr × Obj)} {s : Shared} {Q E : Value → Shared → Prop}
theorem nameG_L4 {A : Around} {Q : Value → Shared → Prop} {x : Str} {pos : Pos} {v : Value} (F : autoParam (Fr h₀ L s.heap m) Mine.aT5) (hv : autoParam (m x = some v) Mine.aT3) (h : Q v s) (hL : autoParam (env.locals = L) Mine.aT9) (hk : autoParam (env.scope.kind = .function) Mine.aT9) (hx : autoParam (env.kindOf x = some .local) Mine.aT9) (hd : autoParam ((x == ("__debug__" : Str)) = false) Mine.aT10) :
    wpAny (model PW w) A (eval (.Name x pos) env) Q E s := wpAny_Name (wpAny_loadName_local hk hx (hL ▸ F.ns) hv h) hd
local macro_rules | `(tactic| walk_at "eval Name") => Mine.sName "Mine.nameG_L4"
theorem pc_h0 {C b db ls lr sf sec dx : Addr} {Wb Hb rotb : Value} {hb kb : _} {Wi Hi xi yi wi hi : Int} {t1 t2 t3 t4 t5 t6 : Tok} {rid : Value} {hs ks : _} {secs : List Value} {ns : Nat} {Q : Flow → Shared → Prop}
    (hC : C ∈ BX) (Cc : Cx 5 w dp un (HE L) outer A₀ base h₀ L m p loose mean mg mb s.heap) (N : News h₀ L s.heap ((ls, listOf secs.toArray ns) :: news)) (hsz : secs.length ≤ 901) (hn : ∀ p ∈ news, p.1 ≠ ls) (hwW : wi ≤ Wi) (hhH : hi ≤ Hi) (hw0 : 0 < wi) (hh0 : 0 < hi)
    (h1 : (b, instObj C db) ∈ news) (h2 : (db, dictOf (boxDict Wb Hb rotb lr sf ls hb kb) 8) ∈ news) (h3 : (sec, instObj 203 dx) ∈ news) (h4 : (dx, dictOf (secDict (.int Wi t1) (.int Hi t2) (.int xi t3) (.int yi t4) rid hs ks) 5) ∈ news)
    (m1 : m (Str.ofString "self") = some (.ref b)) (m2 : m (Str.ofString "section") = some (.ref sec)) (m3 : m (Str.ofString "width") = some (.int wi t5)) (m4 : m (Str.ofString "height") = some (.int hi t6))
    (ret : ∀ nw refs ns' h' tk', Fr h₀ L h' m → News h₀ L h' ((ls, listOf (secs ++ refs).toArray ns') :: (nw ++ news)) → (∀ p ∈ nw, ∀ q ∈ (ls, listOf secs.toArray ns) :: news, @LT.lt Nat _ q.1 p.1) → SecsIn nw refs (if hi < Hi then [(xi, yi + hi, Wi, Hi - hi)] else []) → (secs ++ refs).length ≤ secs.length + 1 → (∀ p ∈ nw ++ news, p.1 ≠ ls) → Q .next { s with heap := h', toks := tk' }) :
    wpAny (model PW w) (AR dp un gd (HE L) outer) (exec (hAt 0) (HE L)) Q E s := by
  obtain ⟨B, F, X, T, -, -, hdp, hun⟩ := Cc
  have q0 : (hAt 0) = (hAt 0) := rfl
  (conv at q0 => rhs; whnf)
  rw [q0]
  clear q0
  unfold HE at *
  have q9 : hScope = hScope := rfl
  (conv at q9 => rhs; whnf)
  rw [q9]
  clear q9
  k_steps
  · refine ret [_, _] [_] _ _ _ (by k_asm) (by k_asm) (lt2 (by assumption) (by assumption)) ?_ (by rw [List.length_append]; exact Nat.le_refl _) (neA (lt2 (by assumption) (by assumption)) hn)
    rw [if_pos (by assumption)]
    exact ⟨⟨_, _, _, _, _, _, _, _, _, rfl, .head _, .tail _ (.head _)⟩, trivial⟩
  · refine ret [] [] _ _ _ (by k_asm) (end0 (by k_asm)) (fun _ h => nomatch h) ?_ (by rw [List.append_nil]; exact Nat.le_succ _) hn
    rw [if_neg (by assumption)]
    exact trivial
theorem pc_h1 {C b db ls lr sf sec dx : Addr} {Wb Hb rotb : Value} {hb kb : _} {Wi Hi xi yi wi hi : Int} {t1 t2 t3 t4 t5 t6 : Tok} {rid : Value} {hs ks : _} {secs : List Value} {ns : Nat} {Q : Flow → Shared → Prop}
    (hC : C ∈ BX) (Cc : Cx 5 w dp un (HE L) outer A₀ base h₀ L m p loose mean mg mb s.heap) (N : News h₀ L s.heap ((ls, listOf secs.toArray ns) :: news)) (hsz : secs.length ≤ 901) (hn : ∀ p ∈ news, p.1 ≠ ls) (hwW : wi ≤ Wi) (hhH : hi ≤ Hi) (hw0 : 0 < wi) (hh0 : 0 < hi)
    (h1 : (b, instObj C db) ∈ news) (h2 : (db, dictOf (boxDict Wb Hb rotb lr sf ls hb kb) 8) ∈ news) (h3 : (sec, instObj 203 dx) ∈ news) (h4 : (dx, dictOf (secDict (.int Wi t1) (.int Hi t2) (.int xi t3) (.int yi t4) rid hs ks) 5) ∈ news)
    (m1 : m (Str.ofString "self") = some (.ref b)) (m2 : m (Str.ofString "section") = some (.ref sec)) (m3 : m (Str.ofString "width") = some (.int wi t5)) (m4 : m (Str.ofString "height") = some (.int hi t6))
    (ret : ∀ nw refs ns' h' tk', Fr h₀ L h' m → News h₀ L h' ((ls, listOf (secs ++ refs).toArray ns') :: (nw ++ news)) → (∀ p ∈ nw, ∀ q ∈ (ls, listOf secs.toArray ns) :: news, @LT.lt Nat _ q.1 p.1) → SecsIn nw refs (if wi < Wi then [(xi + wi, yi, Wi - wi, hi)] else []) → (secs ++ refs).length ≤ secs.length + 1 → (∀ p ∈ nw ++ news, p.1 ≠ ls) → Q .next { s with heap := h', toks := tk' }) :
    wpAny (model PW w) (AR dp un gd (HE L) outer) (exec (hAt 1) (HE L)) Q E s := by
  obtain ⟨B, F, X, T, -, -, hdp, hun⟩ := Cc
  have q0 : (hAt 1) = (hAt 1) := rfl
  (conv at q0 => rhs; whnf)
  rw [q0]
  clear q0
  unfold HE at *
  have q9 : hScope = hScope := rfl
  (conv at q9 => rhs; whnf)
  rw [q9]
  clear q9
  k_steps
  · refine ret [_, _] [_] _ _ _ (by k_asm) (by k_asm) (lt2 (by assumption) (by assumption)) ?_ (by rw [List.length_append]; exact Nat.le_refl _) (neA (lt2 (by assumption) (by assumption)) hn)
    rw [if_pos (by assumption)]
    exact ⟨⟨_, _, _, _, _, _, _, _, _, rfl, .head _, .tail _ (.head _)⟩, trivial⟩
  · refine ret [] [] _ _ _ (by k_asm) (end0 (by k_asm)) (fun _ h => nomatch h) ?_ (by rw [List.append_nil]; exact Nat.le_succ _) hn
    rw [if_neg (by assumption)]
    exact trivial
theorem pc_v0 {C b db ls lr sf sec dx : Addr} {Wb Hb rotb : Value} {hb kb : _} {Wi Hi xi yi wi hi : Int} {t1 t2 t3 t4 t5 t6 : Tok} {rid : Value} {hs ks : _} {secs : List Value} {ns : Nat} {Q : Flow → Shared → Prop}
    (hC : C ∈ BX) (Cc : Cx 5 w dp un (VE L) outer A₀ base h₀ L m p loose mean mg mb s.heap) (N : News h₀ L s.heap ((ls, listOf secs.toArray ns) :: news)) (hsz : secs.length ≤ 901) (hn : ∀ p ∈ news, p.1 ≠ ls) (hwW : wi ≤ Wi) (hhH : hi ≤ Hi) (hw0 : 0 < wi) (hh0 : 0 < hi)
    (h1 : (b, instObj C db) ∈ news) (h2 : (db, dictOf (boxDict Wb Hb rotb lr sf ls hb kb) 8) ∈ news) (h3 : (sec, instObj 203 dx) ∈ news) (h4 : (dx, dictOf (secDict (.int Wi t1) (.int Hi t2) (.int xi t3) (.int yi t4) rid hs ks) 5) ∈ news)
    (m1 : m (Str.ofString "self") = some (.ref b)) (m2 : m (Str.ofString "section") = some (.ref sec)) (m3 : m (Str.ofString "width") = some (.int wi t5)) (m4 : m (Str.ofString "height") = some (.int hi t6))
    (ret : ∀ nw refs ns' h' tk', Fr h₀ L h' m → News h₀ L h' ((ls, listOf (secs ++ refs).toArray ns') :: (nw ++ news)) → (∀ p ∈ nw, ∀ q ∈ (ls, listOf secs.toArray ns) :: news, @LT.lt Nat _ q.1 p.1) → SecsIn nw refs (if hi < Hi then [(xi, yi + hi, wi, Hi - hi)] else []) → (secs ++ refs).length ≤ secs.length + 1 → (∀ p ∈ nw ++ news, p.1 ≠ ls) → Q .next { s with heap := h', toks := tk' }) :
    wpAny (model PW w) (AR dp un gd (VE L) outer) (exec (vAt 0) (VE L)) Q E s := by
  obtain ⟨B, F, X, T, -, -, hdp, hun⟩ := Cc
  have q0 : (vAt 0) = (vAt 0) := rfl
  (conv at q0 => rhs; whnf)
  rw [q0]
  clear q0
  unfold VE at *
  have q9 : vScope = vScope := rfl
  (conv at q9 => rhs; whnf)
  rw [q9]
  clear q9
  k_steps
  · refine ret [_, _] [_] _ _ _ (by k_asm) (by k_asm) (lt2 (by assumption) (by assumption)) ?_ (by rw [List.length_append]; exact Nat.le_refl _) (neA (lt2 (by assumption) (by assumption)) hn)
    rw [if_pos (by assumption)]
    exact ⟨⟨_, _, _, _, _, _, _, _, _, rfl, .head _, .tail _ (.head _)⟩, trivial⟩
  · refine ret [] [] _ _ _ (by k_asm) (end0 (by k_asm)) (fun _ h => nomatch h) ?_ (by rw [List.append_nil]; exact Nat.le_succ _) hn
    rw [if_neg (by assumption)]
    exact trivial
theorem pc_v1 {C b db ls lr sf sec dx : Addr} {Wb Hb rotb : Value} {hb kb : _} {Wi Hi xi yi wi hi : Int} {t1 t2 t3 t4 t5 t6 : Tok} {rid : Value} {hs ks : _} {secs : List Value} {ns : Nat} {Q : Flow → Shared → Prop}
    (hC : C ∈ BX) (Cc : Cx 5 w dp un (VE L) outer A₀ base h₀ L m p loose mean mg mb s.heap) (N : News h₀ L s.heap ((ls, listOf secs.toArray ns) :: news)) (hsz : secs.length ≤ 901) (hn : ∀ p ∈ news, p.1 ≠ ls) (hwW : wi ≤ Wi) (hhH : hi ≤ Hi) (hw0 : 0 < wi) (hh0 : 0 < hi)
    (h1 : (b, instObj C db) ∈ news) (h2 : (db, dictOf (boxDict Wb Hb rotb lr sf ls hb kb) 8) ∈ news) (h3 : (sec, instObj 203 dx) ∈ news) (h4 : (dx, dictOf (secDict (.int Wi t1) (.int Hi t2) (.int xi t3) (.int yi t4) rid hs ks) 5) ∈ news)
    (m1 : m (Str.ofString "self") = some (.ref b)) (m2 : m (Str.ofString "section") = some (.ref sec)) (m3 : m (Str.ofString "width") = some (.int wi t5)) (m4 : m (Str.ofString "height") = some (.int hi t6))
    (ret : ∀ nw refs ns' h' tk', Fr h₀ L h' m → News h₀ L h' ((ls, listOf (secs ++ refs).toArray ns') :: (nw ++ news)) → (∀ p ∈ nw, ∀ q ∈ (ls, listOf secs.toArray ns) :: news, @LT.lt Nat _ q.1 p.1) → SecsIn nw refs (if wi < Wi then [(xi + wi, yi, Wi - wi, Hi)] else []) → (secs ++ refs).length ≤ secs.length + 1 → (∀ p ∈ nw ++ news, p.1 ≠ ls) → Q .next { s with heap := h', toks := tk' }) :
    wpAny (model PW w) (AR dp un gd (VE L) outer) (exec (vAt 1) (VE L)) Q E s := by
  obtain ⟨B, F, X, T, -, -, hdp, hun⟩ := Cc
  have q0 : (vAt 1) = (vAt 1) := rfl
  (conv at q0 => rhs; whnf)
  rw [q0]
  clear q0
  unfold VE at *
  have q9 : vScope = vScope := rfl
  (conv at q9 => rhs; whnf)
  rw [q9]
  clear q9
  k_steps
  · refine ret [_, _] [_] _ _ _ (by k_asm) (by k_asm) (lt2 (by assumption) (by assumption)) ?_ (by rw [List.length_append]; exact Nat.le_refl _) (neA (lt2 (by assumption) (by assumption)) hn)
    rw [if_pos (by assumption)]
    exact ⟨⟨_, _, _, _, _, _, _, _, _, rfl, .head _, .tail _ (.head _)⟩, trivial⟩
  · refine ret [] [] _ _ _ (by k_asm) (end0 (by k_asm)) (fun _ h => nomatch h) ?_ (by rw [List.append_nil]; exact Nat.le_succ _) hn
    rw [if_neg (by assumption)]
    exact trivial
theorem split_h {C b db ls lr sf sec dx : Addr} {Wb Hb rotb : Value} {hb kb : _} {Wi Hi xi yi wi hi : Int} {t1 t2 t3 t4 t5 t6 : Tok} {rid : Value} {hs ks : _} {secs : List Value} {ns : Nat}
    (hC : autoParam (C ∈ BX) Mine.aT0) (Cc : autoParam (Cx 6 w dp un env outer A₀ base h₀ L m p loose mean mg mb s.heap) Mine.aT4) 
    (N : autoParam (News h₀ L s.heap ((ls, listOf secs.toArray ns) :: news)) Mine.aT5) (hsz : autoParam (secs.length ≤ 900) Mine.aT2) (hn : autoParam (∀ p ∈ news, p.1 ≠ ls) Mine.aT7) (hwW : autoParam (wi ≤ Wi) Mine.aT2) (hhH : autoParam (hi ≤ Hi) Mine.aT2) (hw0 : autoParam (0 < wi) Mine.aT2) (hh0 : autoParam (0 < hi) Mine.aT2)
    (h1 : autoParam ((b, instObj C db) ∈ news) Mine.aT8) (h2 : autoParam ((db, dictOf (boxDict Wb Hb rotb lr sf ls hb kb) 8) ∈ news) Mine.aT8)
    (h3 : autoParam ((sec, instObj 203 dx) ∈ news) Mine.aT8) (h4 : autoParam ((dx, dictOf (secDict (.int Wi t1) (.int Hi t2) (.int xi t3) (.int yi t4) rid hs ks) 5) ∈ news) Mine.aT8)
    (ret : ∀ nw refs ns' h' tk', Fr h₀ L h' m → News h₀ L h' ((ls, listOf (secs ++ refs).toArray ns') :: (nw ++ news)) → (∀ p ∈ nw, ∀ q ∈ (ls, listOf secs.toArray ns) :: news, @LT.lt Nat _ q.1 p.1) → SecsIn nw refs (cutH xi yi Wi Hi wi hi) → Q .none { s with heap := h', toks := tk' }) :
    wpAny (model PW w) (AR dp un gd env outer) (call (.ref 337) [.ref b, .ref sec, .int wi t5, .int hi t6]) Q E s := by
  obtain ⟨B, F, X, T, hf, hk, hdp, hun⟩ := Cc
  refine wpAny_call ?_
  k_dflt k_enter
  rename Fr _ _ _ _ => Fz
  rename News _ _ _ _ => Nz
  refine wpAny_execs_cons (pc_h0 hC ⟨by k_asm, Fz, by k_asm, by k_asm, rfl, rfl, by k_room, by k_units⟩ Nz (by omega) hn hwW hhH hw0 hh0 h1 h2 h3 h4 rfl rfl rfl rfl fun nw1 refs1 ns1 h1' tk1 F1 N1 o1 c1 z1 d1 => ?_)
  refine wpAny_execs_cons (pc_h1 hC ⟨by k_asm, F1, by k_asm, by k_asm, rfl, rfl, by k_room, by k_units⟩ N1 (by omega) d1 hwW hhH hw0 hh0 (List.mem_append_right _ h1) (List.mem_append_right _ h2) (List.mem_append_right _ h3) (List.mem_append_right _ h4) rfl rfl rfl rfl fun nw2 refs2 ns2 h2' tk2 F2 N2 o2 c2 z2 d2 => ?_)
  clear Fz Nz F1 N1
  have N3 := end1 N2
  clear N2
  k_steps
  exact ret (nw2 ++ nw1) (refs1 ++ refs2) ns2 _ _ (by k_asm) (by k_asm) (ltA o1 o2) ((c1.mono fun p hp => List.mem_append_right _ hp).append (c2.mono fun p hp => List.mem_append_left _ hp))
theorem split_v {C b db ls lr sf sec dx : Addr} {Wb Hb rotb : Value} {hb kb : _} {Wi Hi xi yi wi hi : Int} {t1 t2 t3 t4 t5 t6 : Tok} {rid : Value} {hs ks : _} {secs : List Value} {ns : Nat}
    (hC : autoParam (C ∈ BX) Mine.aT0) (Cc : autoParam (Cx 6 w dp un env outer A₀ base h₀ L m p loose mean mg mb s.heap) Mine.aT4) 
    (N : autoParam (News h₀ L s.heap ((ls, listOf secs.toArray ns) :: news)) Mine.aT5) (hsz : autoParam (secs.length ≤ 900) Mine.aT2) (hn : autoParam (∀ p ∈ news, p.1 ≠ ls) Mine.aT7) (hwW : autoParam (wi ≤ Wi) Mine.aT2) (hhH : autoParam (hi ≤ Hi) Mine.aT2) (hw0 : autoParam (0 < wi) Mine.aT2) (hh0 : autoParam (0 < hi) Mine.aT2)
    (h1 : autoParam ((b, instObj C db) ∈ news) Mine.aT8) (h2 : autoParam ((db, dictOf (boxDict Wb Hb rotb lr sf ls hb kb) 8) ∈ news) Mine.aT8)
    (h3 : autoParam ((sec, instObj 203 dx) ∈ news) Mine.aT8) (h4 : autoParam ((dx, dictOf (secDict (.int Wi t1) (.int Hi t2) (.int xi t3) (.int yi t4) rid hs ks) 5) ∈ news) Mine.aT8)
    (ret : ∀ nw refs ns' h' tk', Fr h₀ L h' m → News h₀ L h' ((ls, listOf (secs ++ refs).toArray ns') :: (nw ++ news)) → (∀ p ∈ nw, ∀ q ∈ (ls, listOf secs.toArray ns) :: news, @LT.lt Nat _ q.1 p.1) → SecsIn nw refs (cutV xi yi Wi Hi wi hi) → Q .none { s with heap := h', toks := tk' }) :
    wpAny (model PW w) (AR dp un gd env outer) (call (.ref 344) [.ref b, .ref sec, .int wi t5, .int hi t6]) Q E s := by
  obtain ⟨B, F, X, T, hf, hk, hdp, hun⟩ := Cc
  refine wpAny_call ?_
  k_dflt k_enter
  rename Fr _ _ _ _ => Fz
  rename News _ _ _ _ => Nz
  refine wpAny_execs_cons (pc_v0 hC ⟨by k_asm, Fz, by k_asm, by k_asm, rfl, rfl, by k_room, by k_units⟩ Nz (by omega) hn hwW hhH hw0 hh0 h1 h2 h3 h4 rfl rfl rfl rfl fun nw1 refs1 ns1 h1' tk1 F1 N1 o1 c1 z1 d1 => ?_)
  refine wpAny_execs_cons (pc_v1 hC ⟨by k_asm, F1, by k_asm, by k_asm, rfl, rfl, by k_room, by k_units⟩ N1 (by omega) d1 hwW hhH hw0 hh0 (List.mem_append_right _ h1) (List.mem_append_right _ h2) (List.mem_append_right _ h3) (List.mem_append_right _ h4) rfl rfl rfl rfl fun nw2 refs2 ns2 h2' tk2 F2 N2 o2 c2 z2 d2 => ?_)
  clear Fz Nz F1 N1
  have N3 := end1 N2
  clear N2
  k_steps
  exact ret (nw2 ++ nw1) (refs1 ++ refs2) ns2 _ _ (by k_asm) (by k_asm) (ltA o1 o2) ((c1.mono fun p hp => List.mem_append_right _ hp).append (c2.mono fun p hp => List.mem_append_left _ hp))
end
end Mine
local macro_rules | `(tactic| walk_at "call ref") => Mine.sCall "Mine.split_h" "nw' refs' ns' h' tk' F' N' hd' hs'" false
local macro_rules | `(tactic| walk_at "call ref") => Mine.sCall "Mine.split_v" "nw' refs' ns' h' tk' F' N' hd' hs'" false
namespace Mine
/-- the rule of splitting: is the cut horizontal? -/
noncomputable def flatBy (r : Nat) (W H w h : Int) : Prop := match r with
  | 0 => W < H
  | 1 => W ≥ H
  | 2 => W - w < H - h
  | 3 => W - w ≥ H - h
  | 4 => w * (H - h) ≤ h * (W - w)
  | _ => w * (H - h) ≥ h * (W - w)
open Classical in
noncomputable def cutBy (r : Nat) (x y W H w h : Int) : List Q4 := if flatBy r W H w h then cutH x y W H w h else cutV x y W H w h
theorem cut_flat {r : Nat} {x y W H w h : Int} (e : flatBy r W H w h) : cutBy r x y W H w h = cutH x y W H w h := if_pos e
theorem cut_up {r : Nat} {x y W H w h : Int} (e : ¬ flatBy r W H w h) : cutBy r x y W H w h = cutV x y W H w h := if_neg e
section
variable {w : World} {dp un : Nat} {gd : Option (List Code)} {env : Env} {outer : List Env} {A₀ : Around} {base h₀ : Heap} {L : Addr} {m : Str → Option Value} {p : Program} {loose : List Str} {mean : ExcName → Option Value} {mg mb : Str → Option Value} {news : List (Addr × Obj)} {s : Shared} {Q E : Value → Shared → Prop}
theorem split_BssfSas {C b db ls lr sf sec dx : Addr} {Wb Hb rotb : Value} {hb kb : _} {Wi Hi xi yi wi hi : Int} {t1 t2 t3 t4 t5 t6 : Tok} {rid : Value} {hs ks : _} {secs : List Value} {ns : Nat}
    (hC : C ∈ BX) (Cc : Cx 9 w dp un env outer A₀ base h₀ L m p loose mean mg mb s.heap) 
    (N : News h₀ L s.heap ((ls, listOf secs.toArray ns) :: news)) (hsz : secs.length ≤ 900) (hn : ∀ p ∈ news, p.1 ≠ ls) (hwW : wi ≤ Wi) (hhH : hi ≤ Hi) (hw0 : 0 < wi) (hh0 : 0 < hi) (hWb : Wi < bigI) (hHb : Hi < bigI)
    (h1 : (b, instObj C db) ∈ news) (h2 : (db, dictOf (boxDict Wb Hb rotb lr sf ls hb kb) 8) ∈ news)
    (h3 : (sec, instObj 203 dx) ∈ news) (h4 : (dx, dictOf (secDict (.int Wi t1) (.int Hi t2) (.int xi t3) (.int yi t4) rid hs ks) 5) ∈ news)
    (ret : ∀ nw refs ns' h' tk', Fr h₀ L h' m → News h₀ L h' ((ls, listOf (secs ++ refs).toArray ns') :: (nw ++ news)) → (∀ p ∈ nw, ∀ q ∈ (ls, listOf secs.toArray ns) :: news, @LT.lt Nat _ q.1 p.1) → SecsIn nw refs (cutBy 0 xi yi Wi Hi wi hi) → Q .none { s with heap := h', toks := tk' }) :
    wpAny (model PW w) (AR dp un gd env outer) (call (.ref 464) [.ref b, .ref sec, .int wi t5, .int hi t6]) Q E s := by
  obtain ⟨B, F, X, T, hf, hk, hdp, hun⟩ := Cc
  refine wpAny_call ?_
  k_dflt k_enter
  k_steps
  all_goals first
    | (rw [cut_flat (r := 0) (by assumption)] at ret; exact ret _ _ _ _ _ (by k_asm) (by k_asm) (by assumption) (by assumption))
    | (rw [cut_up (r := 0) (by assumption)] at ret; exact ret _ _ _ _ _ (by k_asm) (by k_asm) (by assumption) (by assumption))
theorem split_BlsfSas {C b db ls lr sf sec dx : Addr} {Wb Hb rotb : Value} {hb kb : _} {Wi Hi xi yi wi hi : Int} {t1 t2 t3 t4 t5 t6 : Tok} {rid : Value} {hs ks : _} {secs : List Value} {ns : Nat}
    (hC : C ∈ BX) (Cc : Cx 9 w dp un env outer A₀ base h₀ L m p loose mean mg mb s.heap) 
    (N : News h₀ L s.heap ((ls, listOf secs.toArray ns) :: news)) (hsz : secs.length ≤ 900) (hn : ∀ p ∈ news, p.1 ≠ ls) (hwW : wi ≤ Wi) (hhH : hi ≤ Hi) (hw0 : 0 < wi) (hh0 : 0 < hi) (hWb : Wi < bigI) (hHb : Hi < bigI)
    (h1 : (b, instObj C db) ∈ news) (h2 : (db, dictOf (boxDict Wb Hb rotb lr sf ls hb kb) 8) ∈ news)
    (h3 : (sec, instObj 203 dx) ∈ news) (h4 : (dx, dictOf (secDict (.int Wi t1) (.int Hi t2) (.int xi t3) (.int yi t4) rid hs ks) 5) ∈ news)
    (ret : ∀ nw refs ns' h' tk', Fr h₀ L h' m → News h₀ L h' ((ls, listOf (secs ++ refs).toArray ns') :: (nw ++ news)) → (∀ p ∈ nw, ∀ q ∈ (ls, listOf secs.toArray ns) :: news, @LT.lt Nat _ q.1 p.1) → SecsIn nw refs (cutBy 0 xi yi Wi Hi wi hi) → Q .none { s with heap := h', toks := tk' }) :
    wpAny (model PW w) (AR dp un gd env outer) (call (.ref 578) [.ref b, .ref sec, .int wi t5, .int hi t6]) Q E s := by
  obtain ⟨B, F, X, T, hf, hk, hdp, hun⟩ := Cc
  refine wpAny_call ?_
  k_dflt k_enter
  k_steps
  all_goals first
    | (rw [cut_flat (r := 0) (by assumption)] at ret; exact ret _ _ _ _ _ (by k_asm) (by k_asm) (by assumption) (by assumption))
    | (rw [cut_up (r := 0) (by assumption)] at ret; exact ret _ _ _ _ _ (by k_asm) (by k_asm) (by assumption) (by assumption))
theorem split_BafSas {C b db ls lr sf sec dx : Addr} {Wb Hb rotb : Value} {hb kb : _} {Wi Hi xi yi wi hi : Int} {t1 t2 t3 t4 t5 t6 : Tok} {rid : Value} {hs ks : _} {secs : List Value} {ns : Nat}
    (hC : C ∈ BX) (Cc : Cx 9 w dp un env outer A₀ base h₀ L m p loose mean mg mb s.heap) 
    (N : News h₀ L s.heap ((ls, listOf secs.toArray ns) :: news)) (hsz : secs.length ≤ 900) (hn : ∀ p ∈ news, p.1 ≠ ls) (hwW : wi ≤ Wi) (hhH : hi ≤ Hi) (hw0 : 0 < wi) (hh0 : 0 < hi) (hWb : Wi < bigI) (hHb : Hi < bigI)
    (h1 : (b, instObj C db) ∈ news) (h2 : (db, dictOf (boxDict Wb Hb rotb lr sf ls hb kb) 8) ∈ news)
    (h3 : (sec, instObj 203 dx) ∈ news) (h4 : (dx, dictOf (secDict (.int Wi t1) (.int Hi t2) (.int xi t3) (.int yi t4) rid hs ks) 5) ∈ news)
    (ret : ∀ nw refs ns' h' tk', Fr h₀ L h' m → News h₀ L h' ((ls, listOf (secs ++ refs).toArray ns') :: (nw ++ news)) → (∀ p ∈ nw, ∀ q ∈ (ls, listOf secs.toArray ns) :: news, @LT.lt Nat _ q.1 p.1) → SecsIn nw refs (cutBy 0 xi yi Wi Hi wi hi) → Q .none { s with heap := h', toks := tk' }) :
    wpAny (model PW w) (AR dp un gd env outer) (call (.ref 692) [.ref b, .ref sec, .int wi t5, .int hi t6]) Q E s := by
  obtain ⟨B, F, X, T, hf, hk, hdp, hun⟩ := Cc
  refine wpAny_call ?_
  k_dflt k_enter
  k_steps
  all_goals first
    | (rw [cut_flat (r := 0) (by assumption)] at ret; exact ret _ _ _ _ _ (by k_asm) (by k_asm) (by assumption) (by assumption))
    | (rw [cut_up (r := 0) (by assumption)] at ret; exact ret _ _ _ _ _ (by k_asm) (by k_asm) (by assumption) (by assumption))
theorem split_BssfLas {C b db ls lr sf sec dx : Addr} {Wb Hb rotb : Value} {hb kb : _} {Wi Hi xi yi wi hi : Int} {t1 t2 t3 t4 t5 t6 : Tok} {rid : Value} {hs ks : _} {secs : List Value} {ns : Nat}
    (hC : C ∈ BX) (Cc : Cx 9 w dp un env outer A₀ base h₀ L m p loose mean mg mb s.heap) 
    (N : News h₀ L s.heap ((ls, listOf secs.toArray ns) :: news)) (hsz : secs.length ≤ 900) (hn : ∀ p ∈ news, p.1 ≠ ls) (hwW : wi ≤ Wi) (hhH : hi ≤ Hi) (hw0 : 0 < wi) (hh0 : 0 < hi) (hWb : Wi < bigI) (hHb : Hi < bigI)
    (h1 : (b, instObj C db) ∈ news) (h2 : (db, dictOf (boxDict Wb Hb rotb lr sf ls hb kb) 8) ∈ news)
    (h3 : (sec, instObj 203 dx) ∈ news) (h4 : (dx, dictOf (secDict (.int Wi t1) (.int Hi t2) (.int xi t3) (.int yi t4) rid hs ks) 5) ∈ news)
    (ret : ∀ nw refs ns' h' tk', Fr h₀ L h' m → News h₀ L h' ((ls, listOf (secs ++ refs).toArray ns') :: (nw ++ news)) → (∀ p ∈ nw, ∀ q ∈ (ls, listOf secs.toArray ns) :: news, @LT.lt Nat _ q.1 p.1) → SecsIn nw refs (cutBy 1 xi yi Wi Hi wi hi) → Q .none { s with heap := h', toks := tk' }) :
    wpAny (model PW w) (AR dp un gd env outer) (call (.ref 483) [.ref b, .ref sec, .int wi t5, .int hi t6]) Q E s := by
  obtain ⟨B, F, X, T, hf, hk, hdp, hun⟩ := Cc
  refine wpAny_call ?_
  k_dflt k_enter
  k_steps
  all_goals first
    | (rw [cut_flat (r := 1) (by assumption)] at ret; exact ret _ _ _ _ _ (by k_asm) (by k_asm) (by assumption) (by assumption))
    | (rw [cut_up (r := 1) (by assumption)] at ret; exact ret _ _ _ _ _ (by k_asm) (by k_asm) (by assumption) (by assumption))
theorem split_BlsfLas {C b db ls lr sf sec dx : Addr} {Wb Hb rotb : Value} {hb kb : _} {Wi Hi xi yi wi hi : Int} {t1 t2 t3 t4 t5 t6 : Tok} {rid : Value} {hs ks : _} {secs : List Value} {ns : Nat}
    (hC : C ∈ BX) (Cc : Cx 9 w dp un env outer A₀ base h₀ L m p loose mean mg mb s.heap) 
    (N : News h₀ L s.heap ((ls, listOf secs.toArray ns) :: news)) (hsz : secs.length ≤ 900) (hn : ∀ p ∈ news, p.1 ≠ ls) (hwW : wi ≤ Wi) (hhH : hi ≤ Hi) (hw0 : 0 < wi) (hh0 : 0 < hi) (hWb : Wi < bigI) (hHb : Hi < bigI)
    (h1 : (b, instObj C db) ∈ news) (h2 : (db, dictOf (boxDict Wb Hb rotb lr sf ls hb kb) 8) ∈ news)
    (h3 : (sec, instObj 203 dx) ∈ news) (h4 : (dx, dictOf (secDict (.int Wi t1) (.int Hi t2) (.int xi t3) (.int yi t4) rid hs ks) 5) ∈ news)
    (ret : ∀ nw refs ns' h' tk', Fr h₀ L h' m → News h₀ L h' ((ls, listOf (secs ++ refs).toArray ns') :: (nw ++ news)) → (∀ p ∈ nw, ∀ q ∈ (ls, listOf secs.toArray ns) :: news, @LT.lt Nat _ q.1 p.1) → SecsIn nw refs (cutBy 1 xi yi Wi Hi wi hi) → Q .none { s with heap := h', toks := tk' }) :
    wpAny (model PW w) (AR dp un gd env outer) (call (.ref 597) [.ref b, .ref sec, .int wi t5, .int hi t6]) Q E s := by
  obtain ⟨B, F, X, T, hf, hk, hdp, hun⟩ := Cc
  refine wpAny_call ?_
  k_dflt k_enter
  k_steps
  all_goals first
    | (rw [cut_flat (r := 1) (by assumption)] at ret; exact ret _ _ _ _ _ (by k_asm) (by k_asm) (by assumption) (by assumption))
    | (rw [cut_up (r := 1) (by assumption)] at ret; exact ret _ _ _ _ _ (by k_asm) (by k_asm) (by assumption) (by assumption))
theorem split_BafLas {C b db ls lr sf sec dx : Addr} {Wb Hb rotb : Value} {hb kb : _} {Wi Hi xi yi wi hi : Int} {t1 t2 t3 t4 t5 t6 : Tok} {rid : Value} {hs ks : _} {secs : List Value} {ns : Nat}
    (hC : C ∈ BX) (Cc : Cx 9 w dp un env outer A₀ base h₀ L m p loose mean mg mb s.heap) 
    (N : News h₀ L s.heap ((ls, listOf secs.toArray ns) :: news)) (hsz : secs.length ≤ 900) (hn : ∀ p ∈ news, p.1 ≠ ls) (hwW : wi ≤ Wi) (hhH : hi ≤ Hi) (hw0 : 0 < wi) (hh0 : 0 < hi) (hWb : Wi < bigI) (hHb : Hi < bigI)
    (h1 : (b, instObj C db) ∈ news) (h2 : (db, dictOf (boxDict Wb Hb rotb lr sf ls hb kb) 8) ∈ news)
    (h3 : (sec, instObj 203 dx) ∈ news) (h4 : (dx, dictOf (secDict (.int Wi t1) (.int Hi t2) (.int xi t3) (.int yi t4) rid hs ks) 5) ∈ news)
    (ret : ∀ nw refs ns' h' tk', Fr h₀ L h' m → News h₀ L h' ((ls, listOf (secs ++ refs).toArray ns') :: (nw ++ news)) → (∀ p ∈ nw, ∀ q ∈ (ls, listOf secs.toArray ns) :: news, @LT.lt Nat _ q.1 p.1) → SecsIn nw refs (cutBy 1 xi yi Wi Hi wi hi) → Q .none { s with heap := h', toks := tk' }) :
    wpAny (model PW w) (AR dp un gd env outer) (call (.ref 711) [.ref b, .ref sec, .int wi t5, .int hi t6]) Q E s := by
  obtain ⟨B, F, X, T, hf, hk, hdp, hun⟩ := Cc
  refine wpAny_call ?_
  k_dflt k_enter
  k_steps
  all_goals first
    | (rw [cut_flat (r := 1) (by assumption)] at ret; exact ret _ _ _ _ _ (by k_asm) (by k_asm) (by assumption) (by assumption))
    | (rw [cut_up (r := 1) (by assumption)] at ret; exact ret _ _ _ _ _ (by k_asm) (by k_asm) (by assumption) (by assumption))
theorem split_BssfSlas {C b db ls lr sf sec dx : Addr} {Wb Hb rotb : Value} {hb kb : _} {Wi Hi xi yi wi hi : Int} {t1 t2 t3 t4 t5 t6 : Tok} {rid : Value} {hs ks : _} {secs : List Value} {ns : Nat}
    (hC : C ∈ BX) (Cc : Cx 9 w dp un env outer A₀ base h₀ L m p loose mean mg mb s.heap) 
    (N : News h₀ L s.heap ((ls, listOf secs.toArray ns) :: news)) (hsz : secs.length ≤ 900) (hn : ∀ p ∈ news, p.1 ≠ ls) (hwW : wi ≤ Wi) (hhH : hi ≤ Hi) (hw0 : 0 < wi) (hh0 : 0 < hi) (hWb : Wi < bigI) (hHb : Hi < bigI)
    (h1 : (b, instObj C db) ∈ news) (h2 : (db, dictOf (boxDict Wb Hb rotb lr sf ls hb kb) 8) ∈ news)
    (h3 : (sec, instObj 203 dx) ∈ news) (h4 : (dx, dictOf (secDict (.int Wi t1) (.int Hi t2) (.int xi t3) (.int yi t4) rid hs ks) 5) ∈ news)
    (ret : ∀ nw refs ns' h' tk', Fr h₀ L h' m → News h₀ L h' ((ls, listOf (secs ++ refs).toArray ns') :: (nw ++ news)) → (∀ p ∈ nw, ∀ q ∈ (ls, listOf secs.toArray ns) :: news, @LT.lt Nat _ q.1 p.1) → SecsIn nw refs (cutBy 2 xi yi Wi Hi wi hi) → Q .none { s with heap := h', toks := tk' }) :
    wpAny (model PW w) (AR dp un gd env outer) (call (.ref 502) [.ref b, .ref sec, .int wi t5, .int hi t6]) Q E s := by
  obtain ⟨B, F, X, T, hf, hk, hdp, hun⟩ := Cc
  refine wpAny_call ?_
  k_dflt k_enter
  k_steps
  all_goals first
    | (rw [cut_flat (r := 2) (by assumption)] at ret; exact ret _ _ _ _ _ (by k_asm) (by k_asm) (by assumption) (by assumption))
    | (rw [cut_up (r := 2) (by assumption)] at ret; exact ret _ _ _ _ _ (by k_asm) (by k_asm) (by assumption) (by assumption))
theorem split_BlsfSlas {C b db ls lr sf sec dx : Addr} {Wb Hb rotb : Value} {hb kb : _} {Wi Hi xi yi wi hi : Int} {t1 t2 t3 t4 t5 t6 : Tok} {rid : Value} {hs ks : _} {secs : List Value} {ns : Nat}
    (hC : C ∈ BX) (Cc : Cx 9 w dp un env outer A₀ base h₀ L m p loose mean mg mb s.heap) 
    (N : News h₀ L s.heap ((ls, listOf secs.toArray ns) :: news)) (hsz : secs.length ≤ 900) (hn : ∀ p ∈ news, p.1 ≠ ls) (hwW : wi ≤ Wi) (hhH : hi ≤ Hi) (hw0 : 0 < wi) (hh0 : 0 < hi) (hWb : Wi < bigI) (hHb : Hi < bigI)
    (h1 : (b, instObj C db) ∈ news) (h2 : (db, dictOf (boxDict Wb Hb rotb lr sf ls hb kb) 8) ∈ news)
    (h3 : (sec, instObj 203 dx) ∈ news) (h4 : (dx, dictOf (secDict (.int Wi t1) (.int Hi t2) (.int xi t3) (.int yi t4) rid hs ks) 5) ∈ news)
    (ret : ∀ nw refs ns' h' tk', Fr h₀ L h' m → News h₀ L h' ((ls, listOf (secs ++ refs).toArray ns') :: (nw ++ news)) → (∀ p ∈ nw, ∀ q ∈ (ls, listOf secs.toArray ns) :: news, @LT.lt Nat _ q.1 p.1) → SecsIn nw refs (cutBy 2 xi yi Wi Hi wi hi) → Q .none { s with heap := h', toks := tk' }) :
    wpAny (model PW w) (AR dp un gd env outer) (call (.ref 616) [.ref b, .ref sec, .int wi t5, .int hi t6]) Q E s := by
  obtain ⟨B, F, X, T, hf, hk, hdp, hun⟩ := Cc
  refine wpAny_call ?_
  k_dflt k_enter
  k_steps
  all_goals first
    | (rw [cut_flat (r := 2) (by assumption)] at ret; exact ret _ _ _ _ _ (by k_asm) (by k_asm) (by assumption) (by assumption))
    | (rw [cut_up (r := 2) (by assumption)] at ret; exact ret _ _ _ _ _ (by k_asm) (by k_asm) (by assumption) (by assumption))
theorem split_BafSlas {C b db ls lr sf sec dx : Addr} {Wb Hb rotb : Value} {hb kb : _} {Wi Hi xi yi wi hi : Int} {t1 t2 t3 t4 t5 t6 : Tok} {rid : Value} {hs ks : _} {secs : List Value} {ns : Nat}
    (hC : C ∈ BX) (Cc : Cx 9 w dp un env outer A₀ base h₀ L m p loose mean mg mb s.heap) 
    (N : News h₀ L s.heap ((ls, listOf secs.toArray ns) :: news)) (hsz : secs.length ≤ 900) (hn : ∀ p ∈ news, p.1 ≠ ls) (hwW : wi ≤ Wi) (hhH : hi ≤ Hi) (hw0 : 0 < wi) (hh0 : 0 < hi) (hWb : Wi < bigI) (hHb : Hi < bigI)
    (h1 : (b, instObj C db) ∈ news) (h2 : (db, dictOf (boxDict Wb Hb rotb lr sf ls hb kb) 8) ∈ news)
    (h3 : (sec, instObj 203 dx) ∈ news) (h4 : (dx, dictOf (secDict (.int Wi t1) (.int Hi t2) (.int xi t3) (.int yi t4) rid hs ks) 5) ∈ news)
    (ret : ∀ nw refs ns' h' tk', Fr h₀ L h' m → News h₀ L h' ((ls, listOf (secs ++ refs).toArray ns') :: (nw ++ news)) → (∀ p ∈ nw, ∀ q ∈ (ls, listOf secs.toArray ns) :: news, @LT.lt Nat _ q.1 p.1) → SecsIn nw refs (cutBy 2 xi yi Wi Hi wi hi) → Q .none { s with heap := h', toks := tk' }) :
    wpAny (model PW w) (AR dp un gd env outer) (call (.ref 730) [.ref b, .ref sec, .int wi t5, .int hi t6]) Q E s := by
  obtain ⟨B, F, X, T, hf, hk, hdp, hun⟩ := Cc
  refine wpAny_call ?_
  k_dflt k_enter
  k_steps
  all_goals first
    | (rw [cut_flat (r := 2) (by assumption)] at ret; exact ret _ _ _ _ _ (by k_asm) (by k_asm) (by assumption) (by assumption))
    | (rw [cut_up (r := 2) (by assumption)] at ret; exact ret _ _ _ _ _ (by k_asm) (by k_asm) (by assumption) (by assumption))
theorem split_BssfLlas {C b db ls lr sf sec dx : Addr} {Wb Hb rotb : Value} {hb kb : _} {Wi Hi xi yi wi hi : Int} {t1 t2 t3 t4 t5 t6 : Tok} {rid : Value} {hs ks : _} {secs : List Value} {ns : Nat}
    (hC : C ∈ BX) (Cc : Cx 9 w dp un env outer A₀ base h₀ L m p loose mean mg mb s.heap) 
    (N : News h₀ L s.heap ((ls, listOf secs.toArray ns) :: news)) (hsz : secs.length ≤ 900) (hn : ∀ p ∈ news, p.1 ≠ ls) (hwW : wi ≤ Wi) (hhH : hi ≤ Hi) (hw0 : 0 < wi) (hh0 : 0 < hi) (hWb : Wi < bigI) (hHb : Hi < bigI)
    (h1 : (b, instObj C db) ∈ news) (h2 : (db, dictOf (boxDict Wb Hb rotb lr sf ls hb kb) 8) ∈ news)
    (h3 : (sec, instObj 203 dx) ∈ news) (h4 : (dx, dictOf (secDict (.int Wi t1) (.int Hi t2) (.int xi t3) (.int yi t4) rid hs ks) 5) ∈ news)
    (ret : ∀ nw refs ns' h' tk', Fr h₀ L h' m → News h₀ L h' ((ls, listOf (secs ++ refs).toArray ns') :: (nw ++ news)) → (∀ p ∈ nw, ∀ q ∈ (ls, listOf secs.toArray ns) :: news, @LT.lt Nat _ q.1 p.1) → SecsIn nw refs (cutBy 3 xi yi Wi Hi wi hi) → Q .none { s with heap := h', toks := tk' }) :
    wpAny (model PW w) (AR dp un gd env outer) (call (.ref 521) [.ref b, .ref sec, .int wi t5, .int hi t6]) Q E s := by
  obtain ⟨B, F, X, T, hf, hk, hdp, hun⟩ := Cc
  refine wpAny_call ?_
  k_dflt k_enter
  k_steps
  all_goals first
    | (rw [cut_flat (r := 3) (by assumption)] at ret; exact ret _ _ _ _ _ (by k_asm) (by k_asm) (by assumption) (by assumption))
    | (rw [cut_up (r := 3) (by assumption)] at ret; exact ret _ _ _ _ _ (by k_asm) (by k_asm) (by assumption) (by assumption))
theorem split_BlsfLlas {C b db ls lr sf sec dx : Addr} {Wb Hb rotb : Value} {hb kb : _} {Wi Hi xi yi wi hi : Int} {t1 t2 t3 t4 t5 t6 : Tok} {rid : Value} {hs ks : _} {secs : List Value} {ns : Nat}
    (hC : C ∈ BX) (Cc : Cx 9 w dp un env outer A₀ base h₀ L m p loose mean mg mb s.heap) 
    (N : News h₀ L s.heap ((ls, listOf secs.toArray ns) :: news)) (hsz : secs.length ≤ 900) (hn : ∀ p ∈ news, p.1 ≠ ls) (hwW : wi ≤ Wi) (hhH : hi ≤ Hi) (hw0 : 0 < wi) (hh0 : 0 < hi) (hWb : Wi < bigI) (hHb : Hi < bigI)
    (h1 : (b, instObj C db) ∈ news) (h2 : (db, dictOf (boxDict Wb Hb rotb lr sf ls hb kb) 8) ∈ news)
    (h3 : (sec, instObj 203 dx) ∈ news) (h4 : (dx, dictOf (secDict (.int Wi t1) (.int Hi t2) (.int xi t3) (.int yi t4) rid hs ks) 5) ∈ news)
    (ret : ∀ nw refs ns' h' tk', Fr h₀ L h' m → News h₀ L h' ((ls, listOf (secs ++ refs).toArray ns') :: (nw ++ news)) → (∀ p ∈ nw, ∀ q ∈ (ls, listOf secs.toArray ns) :: news, @LT.lt Nat _ q.1 p.1) → SecsIn nw refs (cutBy 3 xi yi Wi Hi wi hi) → Q .none { s with heap := h', toks := tk' }) :
    wpAny (model PW w) (AR dp un gd env outer) (call (.ref 635) [.ref b, .ref sec, .int wi t5, .int hi t6]) Q E s := by
  obtain ⟨B, F, X, T, hf, hk, hdp, hun⟩ := Cc
  refine wpAny_call ?_
  k_dflt k_enter
  k_steps
  all_goals first
    | (rw [cut_flat (r := 3) (by assumption)] at ret; exact ret _ _ _ _ _ (by k_asm) (by k_asm) (by assumption) (by assumption))
    | (rw [cut_up (r := 3) (by assumption)] at ret; exact ret _ _ _ _ _ (by k_asm) (by k_asm) (by assumption) (by assumption))
theorem split_BafLlas {C b db ls lr sf sec dx : Addr} {Wb Hb rotb : Value} {hb kb : _} {Wi Hi xi yi wi hi : Int} {t1 t2 t3 t4 t5 t6 : Tok} {rid : Value} {hs ks : _} {secs : List Value} {ns : Nat}
    (hC : C ∈ BX) (Cc : Cx 9 w dp un env outer A₀ base h₀ L m p loose mean mg mb s.heap) 
    (N : News h₀ L s.heap ((ls, listOf secs.toArray ns) :: news)) (hsz : secs.length ≤ 900) (hn : ∀ p ∈ news, p.1 ≠ ls) (hwW : wi ≤ Wi) (hhH : hi ≤ Hi) (hw0 : 0 < wi) (hh0 : 0 < hi) (hWb : Wi < bigI) (hHb : Hi < bigI)
    (h1 : (b, instObj C db) ∈ news) (h2 : (db, dictOf (boxDict Wb Hb rotb lr sf ls hb kb) 8) ∈ news)
    (h3 : (sec, instObj 203 dx) ∈ news) (h4 : (dx, dictOf (secDict (.int Wi t1) (.int Hi t2) (.int xi t3) (.int yi t4) rid hs ks) 5) ∈ news)
    (ret : ∀ nw refs ns' h' tk', Fr h₀ L h' m → News h₀ L h' ((ls, listOf (secs ++ refs).toArray ns') :: (nw ++ news)) → (∀ p ∈ nw, ∀ q ∈ (ls, listOf secs.toArray ns) :: news, @LT.lt Nat _ q.1 p.1) → SecsIn nw refs (cutBy 3 xi yi Wi Hi wi hi) → Q .none { s with heap := h', toks := tk' }) :
    wpAny (model PW w) (AR dp un gd env outer) (call (.ref 749) [.ref b, .ref sec, .int wi t5, .int hi t6]) Q E s := by
  obtain ⟨B, F, X, T, hf, hk, hdp, hun⟩ := Cc
  refine wpAny_call ?_
  k_dflt k_enter
  k_steps
  all_goals first
    | (rw [cut_flat (r := 3) (by assumption)] at ret; exact ret _ _ _ _ _ (by k_asm) (by k_asm) (by assumption) (by assumption))
    | (rw [cut_up (r := 3) (by assumption)] at ret; exact ret _ _ _ _ _ (by k_asm) (by k_asm) (by assumption) (by assumption))
theorem split_BssfMaxas {C b db ls lr sf sec dx : Addr} {Wb Hb rotb : Value} {hb kb : _} {Wi Hi xi yi wi hi : Int} {t1 t2 t3 t4 t5 t6 : Tok} {rid : Value} {hs ks : _} {secs : List Value} {ns : Nat}
    (hC : C ∈ BX) (Cc : Cx 9 w dp un env outer A₀ base h₀ L m p loose mean mg mb s.heap) 
    (N : News h₀ L s.heap ((ls, listOf secs.toArray ns) :: news)) (hsz : secs.length ≤ 900) (hn : ∀ p ∈ news, p.1 ≠ ls) (hwW : wi ≤ Wi) (hhH : hi ≤ Hi) (hw0 : 0 < wi) (hh0 : 0 < hi) (hWb : Wi < bigI) (hHb : Hi < bigI)
    (h1 : (b, instObj C db) ∈ news) (h2 : (db, dictOf (boxDict Wb Hb rotb lr sf ls hb kb) 8) ∈ news)
    (h3 : (sec, instObj 203 dx) ∈ news) (h4 : (dx, dictOf (secDict (.int Wi t1) (.int Hi t2) (.int xi t3) (.int yi t4) rid hs ks) 5) ∈ news)
    (ret : ∀ nw refs ns' h' tk', Fr h₀ L h' m → News h₀ L h' ((ls, listOf (secs ++ refs).toArray ns') :: (nw ++ news)) → (∀ p ∈ nw, ∀ q ∈ (ls, listOf secs.toArray ns) :: news, @LT.lt Nat _ q.1 p.1) → SecsIn nw refs (cutBy 4 xi yi Wi Hi wi hi) → Q .none { s with heap := h', toks := tk' }) :
    wpAny (model PW w) (AR dp un gd env outer) (call (.ref 540) [.ref b, .ref sec, .int wi t5, .int hi t6]) Q E s := by
  obtain ⟨B, F, X, T, hf, hk, hdp, hun⟩ := Cc
  refine wpAny_call ?_
  k_dflt k_enter
  k_steps
  all_goals first
    | (rw [cut_flat (r := 4) (by assumption)] at ret; exact ret _ _ _ _ _ (by k_asm) (by k_asm) (by assumption) (by assumption))
    | (rw [cut_up (r := 4) (by assumption)] at ret; exact ret _ _ _ _ _ (by k_asm) (by k_asm) (by assumption) (by assumption))
theorem split_BlsfMaxas {C b db ls lr sf sec dx : Addr} {Wb Hb rotb : Value} {hb kb : _} {Wi Hi xi yi wi hi : Int} {t1 t2 t3 t4 t5 t6 : Tok} {rid : Value} {hs ks : _} {secs : List Value} {ns : Nat}
    (hC : C ∈ BX) (Cc : Cx 9 w dp un env outer A₀ base h₀ L m p loose mean mg mb s.heap) 
    (N : News h₀ L s.heap ((ls, listOf secs.toArray ns) :: news)) (hsz : secs.length ≤ 900) (hn : ∀ p ∈ news, p.1 ≠ ls) (hwW : wi ≤ Wi) (hhH : hi ≤ Hi) (hw0 : 0 < wi) (hh0 : 0 < hi) (hWb : Wi < bigI) (hHb : Hi < bigI)
    (h1 : (b, instObj C db) ∈ news) (h2 : (db, dictOf (boxDict Wb Hb rotb lr sf ls hb kb) 8) ∈ news)
    (h3 : (sec, instObj 203 dx) ∈ news) (h4 : (dx, dictOf (secDict (.int Wi t1) (.int Hi t2) (.int xi t3) (.int yi t4) rid hs ks) 5) ∈ news)
    (ret : ∀ nw refs ns' h' tk', Fr h₀ L h' m → News h₀ L h' ((ls, listOf (secs ++ refs).toArray ns') :: (nw ++ news)) → (∀ p ∈ nw, ∀ q ∈ (ls, listOf secs.toArray ns) :: news, @LT.lt Nat _ q.1 p.1) → SecsIn nw refs (cutBy 4 xi yi Wi Hi wi hi) → Q .none { s with heap := h', toks := tk' }) :
    wpAny (model PW w) (AR dp un gd env outer) (call (.ref 654) [.ref b, .ref sec, .int wi t5, .int hi t6]) Q E s := by
  obtain ⟨B, F, X, T, hf, hk, hdp, hun⟩ := Cc
  refine wpAny_call ?_
  k_dflt k_enter
  k_steps
  all_goals first
    | (rw [cut_flat (r := 4) (by assumption)] at ret; exact ret _ _ _ _ _ (by k_asm) (by k_asm) (by assumption) (by assumption))
    | (rw [cut_up (r := 4) (by assumption)] at ret; exact ret _ _ _ _ _ (by k_asm) (by k_asm) (by assumption) (by assumption))
theorem split_BafMaxas {C b db ls lr sf sec dx : Addr} {Wb Hb rotb : Value} {hb kb : _} {Wi Hi xi yi wi hi : Int} {t1 t2 t3 t4 t5 t6 : Tok} {rid : Value} {hs ks : _} {secs : List Value} {ns : Nat}
    (hC : C ∈ BX) (Cc : Cx 9 w dp un env outer A₀ base h₀ L m p loose mean mg mb s.heap) 
    (N : News h₀ L s.heap ((ls, listOf secs.toArray ns) :: news)) (hsz : secs.length ≤ 900) (hn : ∀ p ∈ news, p.1 ≠ ls) (hwW : wi ≤ Wi) (hhH : hi ≤ Hi) (hw0 : 0 < wi) (hh0 : 0 < hi) (hWb : Wi < bigI) (hHb : Hi < bigI)
    (h1 : (b, instObj C db) ∈ news) (h2 : (db, dictOf (boxDict Wb Hb rotb lr sf ls hb kb) 8) ∈ news)
    (h3 : (sec, instObj 203 dx) ∈ news) (h4 : (dx, dictOf (secDict (.int Wi t1) (.int Hi t2) (.int xi t3) (.int yi t4) rid hs ks) 5) ∈ news)
    (ret : ∀ nw refs ns' h' tk', Fr h₀ L h' m → News h₀ L h' ((ls, listOf (secs ++ refs).toArray ns') :: (nw ++ news)) → (∀ p ∈ nw, ∀ q ∈ (ls, listOf secs.toArray ns) :: news, @LT.lt Nat _ q.1 p.1) → SecsIn nw refs (cutBy 4 xi yi Wi Hi wi hi) → Q .none { s with heap := h', toks := tk' }) :
    wpAny (model PW w) (AR dp un gd env outer) (call (.ref 768) [.ref b, .ref sec, .int wi t5, .int hi t6]) Q E s := by
  obtain ⟨B, F, X, T, hf, hk, hdp, hun⟩ := Cc
  refine wpAny_call ?_
  k_dflt k_enter
  k_steps
  all_goals first
    | (rw [cut_flat (r := 4) (by assumption)] at ret; exact ret _ _ _ _ _ (by k_asm) (by k_asm) (by assumption) (by assumption))
    | (rw [cut_up (r := 4) (by assumption)] at ret; exact ret _ _ _ _ _ (by k_asm) (by k_asm) (by assumption) (by assumption))
theorem split_BssfMinas {C b db ls lr sf sec dx : Addr} {Wb Hb rotb : Value} {hb kb : _} {Wi Hi xi yi wi hi : Int} {t1 t2 t3 t4 t5 t6 : Tok} {rid : Value} {hs ks : _} {secs : List Value} {ns : Nat}
    (hC : C ∈ BX) (Cc : Cx 9 w dp un env outer A₀ base h₀ L m p loose mean mg mb s.heap) 
    (N : News h₀ L s.heap ((ls, listOf secs.toArray ns) :: news)) (hsz : secs.length ≤ 900) (hn : ∀ p ∈ news, p.1 ≠ ls) (hwW : wi ≤ Wi) (hhH : hi ≤ Hi) (hw0 : 0 < wi) (hh0 : 0 < hi) (hWb : Wi < bigI) (hHb : Hi < bigI)
    (h1 : (b, instObj C db) ∈ news) (h2 : (db, dictOf (boxDict Wb Hb rotb lr sf ls hb kb) 8) ∈ news)
    (h3 : (sec, instObj 203 dx) ∈ news) (h4 : (dx, dictOf (secDict (.int Wi t1) (.int Hi t2) (.int xi t3) (.int yi t4) rid hs ks) 5) ∈ news)
    (ret : ∀ nw refs ns' h' tk', Fr h₀ L h' m → News h₀ L h' ((ls, listOf (secs ++ refs).toArray ns') :: (nw ++ news)) → (∀ p ∈ nw, ∀ q ∈ (ls, listOf secs.toArray ns) :: news, @LT.lt Nat _ q.1 p.1) → SecsIn nw refs (cutBy 5 xi yi Wi Hi wi hi) → Q .none { s with heap := h', toks := tk' }) :
    wpAny (model PW w) (AR dp un gd env outer) (call (.ref 559) [.ref b, .ref sec, .int wi t5, .int hi t6]) Q E s := by
  obtain ⟨B, F, X, T, hf, hk, hdp, hun⟩ := Cc
  refine wpAny_call ?_
  k_dflt k_enter
  k_steps
  all_goals first
    | (rw [cut_flat (r := 5) (by assumption)] at ret; exact ret _ _ _ _ _ (by k_asm) (by k_asm) (by assumption) (by assumption))
    | (rw [cut_up (r := 5) (by assumption)] at ret; exact ret _ _ _ _ _ (by k_asm) (by k_asm) (by assumption) (by assumption))
theorem split_BlsfMinas {C b db ls lr sf sec dx : Addr} {Wb Hb rotb : Value} {hb kb : _} {Wi Hi xi yi wi hi : Int} {t1 t2 t3 t4 t5 t6 : Tok} {rid : Value} {hs ks : _} {secs : List Value} {ns : Nat}
    (hC : C ∈ BX) (Cc : Cx 9 w dp un env outer A₀ base h₀ L m p loose mean mg mb s.heap) 
    (N : News h₀ L s.heap ((ls, listOf secs.toArray ns) :: news)) (hsz : secs.length ≤ 900) (hn : ∀ p ∈ news, p.1 ≠ ls) (hwW : wi ≤ Wi) (hhH : hi ≤ Hi) (hw0 : 0 < wi) (hh0 : 0 < hi) (hWb : Wi < bigI) (hHb : Hi < bigI)
    (h1 : (b, instObj C db) ∈ news) (h2 : (db, dictOf (boxDict Wb Hb rotb lr sf ls hb kb) 8) ∈ news)
    (h3 : (sec, instObj 203 dx) ∈ news) (h4 : (dx, dictOf (secDict (.int Wi t1) (.int Hi t2) (.int xi t3) (.int yi t4) rid hs ks) 5) ∈ news)
    (ret : ∀ nw refs ns' h' tk', Fr h₀ L h' m → News h₀ L h' ((ls, listOf (secs ++ refs).toArray ns') :: (nw ++ news)) → (∀ p ∈ nw, ∀ q ∈ (ls, listOf secs.toArray ns) :: news, @LT.lt Nat _ q.1 p.1) → SecsIn nw refs (cutBy 5 xi yi Wi Hi wi hi) → Q .none { s with heap := h', toks := tk' }) :
    wpAny (model PW w) (AR dp un gd env outer) (call (.ref 673) [.ref b, .ref sec, .int wi t5, .int hi t6]) Q E s := by
  obtain ⟨B, F, X, T, hf, hk, hdp, hun⟩ := Cc
  refine wpAny_call ?_
  k_dflt k_enter
  k_steps
  all_goals first
    | (rw [cut_flat (r := 5) (by assumption)] at ret; exact ret _ _ _ _ _ (by k_asm) (by k_asm) (by assumption) (by assumption))
    | (rw [cut_up (r := 5) (by assumption)] at ret; exact ret _ _ _ _ _ (by k_asm) (by k_asm) (by assumption) (by assumption))
theorem split_BafMinas {C b db ls lr sf sec dx : Addr} {Wb Hb rotb : Value} {hb kb : _} {Wi Hi xi yi wi hi : Int} {t1 t2 t3 t4 t5 t6 : Tok} {rid : Value} {hs ks : _} {secs : List Value} {ns : Nat}
    (hC : C ∈ BX) (Cc : Cx 9 w dp un env outer A₀ base h₀ L m p loose mean mg mb s.heap) 
    (N : News h₀ L s.heap ((ls, listOf secs.toArray ns) :: news)) (hsz : secs.length ≤ 900) (hn : ∀ p ∈ news, p.1 ≠ ls) (hwW : wi ≤ Wi) (hhH : hi ≤ Hi) (hw0 : 0 < wi) (hh0 : 0 < hi) (hWb : Wi < bigI) (hHb : Hi < bigI)
    (h1 : (b, instObj C db) ∈ news) (h2 : (db, dictOf (boxDict Wb Hb rotb lr sf ls hb kb) 8) ∈ news)
    (h3 : (sec, instObj 203 dx) ∈ news) (h4 : (dx, dictOf (secDict (.int Wi t1) (.int Hi t2) (.int xi t3) (.int yi t4) rid hs ks) 5) ∈ news)
    (ret : ∀ nw refs ns' h' tk', Fr h₀ L h' m → News h₀ L h' ((ls, listOf (secs ++ refs).toArray ns') :: (nw ++ news)) → (∀ p ∈ nw, ∀ q ∈ (ls, listOf secs.toArray ns) :: news, @LT.lt Nat _ q.1 p.1) → SecsIn nw refs (cutBy 5 xi yi Wi Hi wi hi) → Q .none { s with heap := h', toks := tk' }) :
    wpAny (model PW w) (AR dp un gd env outer) (call (.ref 787) [.ref b, .ref sec, .int wi t5, .int hi t6]) Q E s := by
  obtain ⟨B, F, X, T, hf, hk, hdp, hun⟩ := Cc
  refine wpAny_call ?_
  k_dflt k_enter
  k_steps
  all_goals first
    | (rw [cut_flat (r := 5) (by assumption)] at ret; exact ret _ _ _ _ _ (by k_asm) (by k_asm) (by assumption) (by assumption))
    | (rw [cut_up (r := 5) (by assumption)] at ret; exact ret _ _ _ _ _ (by k_asm) (by k_asm) (by assumption) (by assumption))
end
end Mine
namespace Mine
open PySem.W.X
/-- the heap's first C objects -/
noncomputable def cutHeap (h : Heap) (C : Addr) : Heap := ⟨h.objs.extract 0 C, h.life⟩
theorem ext_size (a : Array Obj) (C : Nat) : (a.extract 0 C).size ≤ C ∧ (a.extract 0 C).size ≤ a.size := by rw [Array.size_extract]; omega
theorem ext_get (a : Array Obj) (C b : Nat) (hb : b < C) (hlt : b < a.size) : (a.extract 0 C)[b]? = a[b]? := by
  rw [Array.getElem?_extract]
  have : b < min C a.size - 0 := by omega
  rw [if_pos this]; simp
theorem cutHeap_size (h : Heap) (C : Addr) : (cutHeap h C).objs.size ≤ C := (ext_size h.objs C).1
theorem cutHeap_get {h : Heap} {C b : Addr} {o : Obj} (e : h.get? b = some o) (hb : b < C) : (cutHeap h C).get? b = some o := by
  have e' : (h.objs.extract 0 C)[b]? = h.objs[b]? := ext_get h.objs C b hb (Heap.lt_size e)
  unfold Heap.get? at e ⊢
  show (match (h.objs.extract 0 C)[b]? with | some ⟨_, _, .freed, _⟩ => none | o => o) = some o
  rw [e']; exact e
theorem of_cutHeap {h : Heap} {C b : Addr} {o : Obj} (e : (cutHeap h C).get? b = some o) : h.get? b = some o := by
  have hlt : b < (cutHeap h C).objs.size := Heap.lt_size e
  have e' : (h.objs.extract 0 C)[b]? = h.objs[b]? := ext_get h.objs C b (Nat.lt_of_lt_of_le hlt (cutHeap_size h C)) (Nat.lt_of_lt_of_le hlt (ext_size h.objs C).2)
  unfold Heap.get? at e ⊢
  have e2 : (match (h.objs.extract 0 C)[b]? with | some ⟨_, _, .freed, _⟩ => none | o => o) = some o := e
  rw [e'] at e2; exact e2

/-- a frame that was laid earlier is taken up again: a base for it -/
theorem rebase {h₀ h : Heap} {L C : Addr} {m mC : Str → Option Value} {led : List (Addr × Obj)} (F : Fr h₀ L h m) (N : News h₀ L h led) (hLC : L < C) (hn : h.Ns C mC) (hC : ∀ p ∈ led, p.1 ≠ C) :
    ∃ g, Fr h₀ L g m ∧ Fr g C h mC ∧ News g C h led := by
  have up : ∀ b o, h.get? b = some o → b < C → (∀ p ∈ led, p.1 ≠ b) → (hideAll (cutHeap h C) (led.map (·.1))).get? b = some o := fun b o e hb hl =>
    hideAll_get _ (cutHeap_get e hb) fun q => by
      obtain ⟨p, hp, e⟩ := List.mem_map.mp q
      exact hl p hp e
  refine ⟨hideAll (cutHeap h C) (led.map (·.1)), ⟨?_, fun b o e => ?_, F.above⟩, ⟨hn, fun b o e => of_cutHeap (of_hideAll _ e), ?_⟩, fun p hp => ⟨(N p hp).1, hC p hp, hideAll_none _ (List.mem_map_of_mem hp)⟩⟩
  · obtain ⟨o, es, ep, e, r⟩ := F.ns
    exact ⟨o, es, ep, up L o e hLC fun p hp => (N p hp).2.1, r⟩
  · refine up b o (F.keep b o e) (Nat.lt_trans (Nat.lt_of_lt_of_le (Heap.lt_size e) F.above) hLC) fun p hp q => ?_
    have := (N p hp).2.2
    rw [q, e] at this; cases this
  · rw [hideAll_size]; exact cutHeap_size h C

theorem belowPush {A A' : Around} {base h₀ h : Heap} {outer : List Env} {L : Addr} {m : Str → Option Value} {env : Env} (B : Below A base outer h₀) (F : Fr h₀ L h m) (hs : A'.frames = some (env :: outer)) (hk : env.scope.kind = .function) (hf : env.frame = some L) :
    Below A' base (env :: outer) h := by
  have hnew : base.get? L = none := by
    cases hq : base.get? L with
    | none => rfl
    | some o => exact absurd (Nat.lt_of_lt_of_le (Heap.lt_size (B.stays L o hq)) F.above) (Nat.lt_irrefl _)
  obtain ⟨o, es, ep, e, hd, _⟩ := F.ns
  exact ⟨hs, fun b o e => F.keep b o (B.stays b o e), by rw [hk]; decide, ⟨L, o, hf, hnew, e, fun vs q => by rw [q] at hd; cases hd⟩, B.frames.of_keeps fun b o e _ => ⟨o, F.keep b o e, rfl⟩⟩

section
variable {prog : Program} {w : World} {A : Around} {E : Value → Shared → Prop} {s : Shared}

/-- how a sleeping generator stands: it goes on at the tree t₀ of the code c₀ -/
noncomputable def Wake (w : World) (prog : Program) (gs : GenState) (c₀ : Code) (t₀ : Sem PySem.Fin) : Prop :=
  (gs = .fresh c₀ ∧ t₀ = denote table c₀) ∨ ∃ k₀ l₀ p₀ cl, gs = .suspended k₀ l₀ c₀ p₀ [] cl ∧ t₀ = k₀ (.send .none)

theorem resumeX {α : Type} {Q : α → Shared → Prop} {g : Nat} {gs : GenState} {l : List Value} {k : GenResult → Sem α} {c₀ : Code} {t₀ : Sem PySem.Fin} (hg : s.gens[g]? = some gs) (hw : Wake w prog gs c₀ t₀)
    (x : SegX (model prog w) A c₀ t₀ [] (s.setGen g .running) (fun e s₁ => wpAny (model prog w) A (k e.result) Q E (s₁.setGen g e.genState))) :
    wpAny (model prog w) A (.resume g (.send .none) l k) Q E s := by
  have z := wake_any α prog w (A := A) (Q := Q) (E := E) (s := s) (g := g) (gs := gs) (r := .send .none) (l := l) (k := k) (c₀ := c₀) (t₀ := t₀) (fs₀ := []) hg
    (by
      rcases hw with ⟨a, b⟩ | ⟨k₀, l₀, p₀, cl, a, b⟩
      · exact .inl ⟨a, rfl, b, rfl⟩
      · exact .inr ⟨k₀, l₀, p₀, cl, a, b⟩) (fun Γ => Γ.In A) (fun Γ h => h) (x.mono fun e s' h Γ p hΓ => h Γ p hΓ)
  exact fun Γ p hΓ => z Γ p hΓ

theorem nextGenX {Q : Option Value → Shared → Prop} {a : Addr} {g : Nat} {gs : GenState} {c₀ : Code} {t₀ : Sem PySem.Fin} (hh : A.handled = none) (hl : s.heap.NoLimit) (hroom : A.depth < recursionLimit)
    (hg : s.heap.IsGen a g) (hgs : s.gens[g]? = some gs) (hw : Wake w prog gs c₀ t₀)
    (x : SegX (model prog w) A.in1 c₀ t₀ [] (s.setGen g .running) (fun e s₁ => match e with
      | .ret (.ok .next) => ∀ o₁ o₂, o₁.isFreed = false → o₂.isFreed = false → Q none { s₁.setGen g .finished with heap := (s₁.heap.push o₁).push o₂ }
      | .ret _ => False
      | .susp v gd lv k c p fs => Q (some v) (s₁.setGen g (.suspended k lv c p fs (gd || fs.any Frame.guarded))))) :
    wpAny (model prog w) A (pyNext (.ref a)) Q E s := by
  unfold pyNext
  refine wpAny_bind (wpAny_attempt (wpAny_callSpecial?_slot (name := Str.ofString "__next__") hg.typeIs slot_gen_next
    (wpAny_call_entry slot_gen_next hg.typeIs entry_gen_next ?_ (args_gen_next _))))
  show wpAny _ A.in1 (Builtin.Generator.genWake (.ref a) (.send .none)) _ _ s
  unfold Builtin.Generator.genWake
  refine wpAny_bind (wpAny_holding (wpAny_genNumber hg (wpAny_bind (wpAny_genState hgs ?_))))
  have hgo : ∀ (Q₁ : PySem.Fin → Shared → Prop) (E₁ : Value → Shared → Prop) (l : List Value) (k : GenResult → Sem PySem.Fin), SegX (model prog w) A.in1 c₀ t₀ [] (s.setGen g .running) (fun e s₁ => wpAny (model prog w) A.in1 (k e.result) Q₁ E₁ (s₁.setGen g e.genState)) →
      wpAny (model prog w) A.in1 (.resume g (.send .none) l k) Q₁ E₁ s := fun Q₁ E₁ l k => resumeX (A := A.in1) hgs hw
  have tail : ∀ s₁ : Shared, (∀ o₁ o₂, o₁.isFreed = false → o₂.isFreed = false → Q none { s₁.setGen g .finished with heap := (s₁.heap.push o₁).push o₂ }) → True := fun _ _ => trivial
  rcases hw with ⟨e0, _⟩ | ⟨k₀, l₀, p₀, cl, e0, _⟩
  all_goals
    subst e0
    refine wpAny_bind (wpAny_roomToWake hl hroom ?_)
    show wpAny _ A.in1 (.resume g (.send .none) [] _) _ _ s
    refine hgo _ _ _ _ (x.mono fun e s₁ he => ?_)
    match e, he with
    | .ret (.ok .next), he =>
      show wpAny _ A.in1 (newExc (.type "StopIteration") [] >>= _) _ _ _
      refine wpAny_bind ?_
      simp only [newExc, newTuple]
      refine wpAny_bind (wpAny_newObj_type ?_ (by size_fits))
      refine wpAny_bind (m := firstArgMember _ _) (wpAny_of_eq (a := Value.none) (by first | rfl | (simp only [firstArgMember]; rfl)) ?_)
      refine wpAny_newObj_type ?_ (by size_fits)
      simp only [raiseNew]
      refine wpAny_bind (wpAny_bind (wpAny_handled ?_))
      first | rw [show A.in1.handled = none from hh] | rw [hh]
      refine wpAny_throw ?_
      refine wpAny_bind (wpAny_isInstance (T := "StopIteration") (b := true) ⟨_, Heap.get?_push_size _ rfl, rfl⟩ isSubtype_stop ?_)
      exact wpAny_pure (he _ _ rfl rfl)
    | .susp v gd lv k c p fs, he => exact wpAny_pure ⟨v, rfl, wpAny_pure he⟩
end
end Mine
namespace Mine
noncomputable abbrev lstO (xs : List Value) (c : Nat) : Obj := { cls := .type "list", data := .seq xs.toArray c }

/-- a generator that a list is made of: r bounds what is still to come, acc is what came, o is the list at S -/
structure Feeds (prog : Program) (w : World) (A : Around) (a S : Addr) (St : Nat → List Value → Obj → Shared → Prop) (Fn : List Value → Obj → Shared → Prop) : Prop where
  gen : ∀ r acc o s, St r acc o s → ∃ g, s.heap.IsGen a g
  got : ∀ r acc o s, St r acc o s → s.heap.get? S = some o
  ne : S ≠ a
  size : ∀ r acc o s, St r acc o s → acc.length + r ≤ 1000
  set : ∀ r acc o o' s h', St r acc o s → o'.isFreed = false → h'.get? S = some o' → Heap.SameBut S s.heap h' → St r acc o' { s with heap := h' }
  next : ∀ r acc o s (Q : Option Value → Shared → Prop) (E : Value → Shared → Prop), St r acc o s → (∀ s', Fn acc o s' → Q none s') → (∀ r' v s', r' < r → St r' (acc ++ [v]) o s' → Q (some v) s') → wpAny (model prog w) A (pyNext (.ref a)) Q E s

section
variable {prog : Program} {w : World} {A : Around} {E : Value → Shared → Prop} {s : Shared} {R : Result → Shared → Prop} {a S : Addr} {St : Nat → List Value → Obj → Shared → Prop} {Fn : List Value → Obj → Shared → Prop}

theorem feed_loop (W : Feeds prog w A.in1 a S St Fn) (res : Value) (hR : ∀ acc c s', Fn acc (lstO acc c) s' → R (.ok (.ret res)) s') :
    ∀ (r : Nat) (acc : List Value) (c : Nat) (s : Shared), St r acc (lstO acc c) s → codeAny (model prog w) A (.builtin "list.extend.loop" ⟨[.ref S, .ref a, res], []⟩) R s := by
  intro r
  induction r using Nat.strongRecOn with
  | ind r ih =>
    intro acc c s hst
    refine codeAny_builtin F.entry_extend_loop ?_
    rw [Around.under_plainId F.plain_extend_loop _]
    show wpAny _ A.in1 (pyNext (.ref a) >>= _) _ _ s
    refine wpAny_bind (W.next r acc _ s _ _ hst (fun s' hf => wpAny_pure (hR acc c s' hf)) fun r' v s' hr hst' => ?_)
    have hS := W.got _ _ _ _ hst'
    have hsz := W.size _ _ _ _ hst'
    rw [List.length_append, List.length_singleton] at hsz
    show wpAny _ A.in1 (updateSeq S (·.push v) >>= _) _ _ _
    refine wpAny_bind ?_
    have e : (Obj.mapSeq (·.push v)) (lstO acc c) = lstO (acc ++ [v]) (c + 1) := by
      have hne : ((acc.toArray.push v).size == acc.toArray.size) = false := by simp
      show ({ cls := .type "list", data := .seq (acc.toArray.push v) (if ((acc.toArray.push v).size == acc.toArray.size) = true then c else c + 1) } : Obj) = _
      rw [if_neg (by rw [hne]; exact Bool.false_ne_true), List.push_toArray]
    refine wpAny_updateSeq hS rfl (wpAny_pure ⟨plainId_quiet F.plain_extend_loop _, ih r' hr (acc ++ [v]) (c + 1) _ (W.set _ _ _ _ _ _ hst' rfl ?_ (Heap.SameBut.update ..))⟩)
      (by show acc.toArray.size ≤ sizeLine; rw [List.size_toArray, sizeLine_eq]; omega) (by show (acc.toArray.push v).size ≤ sizeLine + 1; rw [Array.size_push, List.size_toArray, sizeLine_eq]; omega)
    rw [Heap.get?_update_self _ hS rfl]
    exact congrArg some e

theorem feed_list {Q : Value → Shared → Prop} {r : Nat} (W : Feeds prog w A.in1.in1 a s.heap.objs.size St Fn) (hst : St r [] (lstO [] 0) { s with heap := s.heap.push (lstO [] 0) })
    (hQ : ∀ acc c s', Fn acc (lstO acc c) s' → Q (.ref s.heap.objs.size) s') : wpAny (model prog w) A (call (.type "list") [.ref a]) Q E s := by
  refine callType_codes (Q₁ := fun obj s₁ => obj = .ref s.heap.objs.size ∧ s₁ = { s with heap := s.heap.push { cls := .type "list", data := .seq #[] } }) F.called_list (F.typeCall_list_1 _) F.entry_list_init
    (code_list_new _ ⟨rfl, rfl⟩) fun obj s₁ h₁ => ?_
  obtain ⟨rfl, rfl⟩ := h₁
  generalize hS' : s.heap.objs.size = S at W hQ ⊢
  have hS : (s.heap.push { cls := .type "list", data := .seq #[] }).get? S = some (lstO [] 0) := hS' ▸ Heap.get?_push_size _ rfl
  refine ⟨⟨_, hS, rfl⟩, F.args_list_init_2 _ _, ?_⟩
  show wpAny _ A.in1.in1 (do let old ← Builtin.List.listItems (.ref S); Builtin.List.listUpdate (.ref S) (fun _ => #[]); letGo old.toList.reverse; Builtin.List.listExtendWith (.ref S) (.ref a) .none) _ _ _
  refine wpAny_bind ?_
  unfold Builtin.List.listItems
  refine wpAny_bind (wpAny_seqItems hS rfl (wpAny_pure ?_))
  show wpAny _ A.in1.in1 (updateSeq S (fun _ => #[]) >>= fun _ => letGo (#[] : Array Value).toList.reverse >>= fun _ => Builtin.List.listExtendWith (.ref S) (.ref a) .none) _ _ _
  refine wpAny_bind (wpAny_updateSeq hS rfl ?_)
  have hS₂ := Heap.get?_update_self (Obj.mapSeq (fun _ => (#[] : Array Value))) hS rfl
  have st₂ := W.set _ _ _ _ _ _ hst (show (lstO [] 0).isFreed = false from rfl) hS₂ (Heap.SameBut.update ..)
  refine wpAny_bind (wpAny_letGo ?_)
  unfold Builtin.List.listExtendWith
  obtain ⟨g, hg⟩ := W.gen _ _ _ _ st₂
  refine wpAny_bind (wpAny_typeOf hg.typeIs ?_)
  have h1 : Builtin.List.listSameRef (.ref S) (.ref a) = false := by simp [Builtin.List.listSameRef, W.ne]
  have h2 : (Value.type "generator" == Value.type "list") = false := by decide
  have h3 : (Value.type "generator" == Value.type "tuple") = false := by decide
  simp only [h1, h2, h3, Bool.or_false, Bool.false_eq_true, if_false]
  refine wpAny_bind (wpAny_pyIter_gen hg ?_)
  refine wpAny_bind (wpAny_holding ?_)
  unfold Builtin.List.listLengthHint
  refine wpAny_bind (wpAny_specialOf hg.typeIs F.gen_no_len ?_)
  show wpAny _ A.in1.in1 (specialOf (Value.ref a) (Str.ofString "__length_hint__") >>= _) _ _ _
  refine wpAny_bind (wpAny_specialOf hg.typeIs F.gen_no_hint ?_)
  refine wpAny_pure ?_
  show wpAny _ A.in1.in1 (rule "list.extend.makes-room" >>= fun _ => Builtin.List.listTouch (.ref S) >>= fun _ =>
    again (.builtin "list.extend.loop" ⟨[.ref S, .ref a, .none], []⟩)) _ _ _
  refine wpAny_bind (wpAny_rule ?_)
  refine wpAny_bind ?_
  show wpAny _ A.in1.in1 (updateSeq S (·.push .none) >>= fun _ => updateSeq S (·.pop)) _ _ _
  refine wpAny_bind (wpAny_updateSeq hS₂ rfl ?_)
  have hS₃ := Heap.get?_update_self (Obj.mapSeq (·.push Value.none)) hS₂ rfl
  refine wpAny_updateSeq (hz := by seq_fits) hS₃ rfl ?_
  have hS₄ := Heap.get?_update_self (Obj.mapSeq (·.pop)) hS₃ rfl
  have st₃ := W.set _ _ _ _ _ _ st₂ rfl hS₃ (Heap.SameBut.update ..)
  have st₄ := W.set _ _ _ _ _ _ st₃ (show (lstO [] 2).isFreed = false from rfl) hS₄ (Heap.SameBut.update ..)
  exact wpAny_pure ⟨plainId_quiet F.plain_extend_loop _, feed_loop W .none (fun acc c s' hf => ⟨rfl, hQ acc c s' hf⟩) r [] 2 _ st₄⟩
end
end Mine
namespace Mine
open PySem.W.X
/-- a namespace's object -/
noncomputable def NsO (o : Obj) (m : Str → Option Value) : Prop := ∃ es ep, o.data = .dict es ep ∧ StrKeys es ∧ ∀ name, nsFind es name = m name
noncomputable def IterO (o : Obj) (l : Addr) (i : Nat) : Prop := o.cls = .type "list_iterator" ∧ o.data = .fields #[.ref l, .int i 0]
noncomputable def GenO (o : Obj) (g : Nat) : Prop := ∃ nm qn, o.cls = .type "generator" ∧ o.data = .fields #[.int g 0, nm, qn] ∧ o.slots = #[]
theorem NsO.ns {h : Heap} {C : Addr} {o : Obj} {m} (x : NsO o m) (e : h.get? C = some o) : h.Ns C m := let ⟨es, ep, a, b, c⟩ := x; ⟨o, es, ep, e, a, b, c⟩
theorem NsO.of {h : Heap} {C : Addr} {m} (x : h.Ns C m) : ∃ o, h.get? C = some o ∧ NsO o m := let ⟨o, es, ep, e, a, b, c⟩ := x; ⟨o, e, es, ep, a, b, c⟩
theorem IterO.at {h : Heap} {I l : Addr} {i : Nat} {o : Obj} (x : IterO o l i) (e : h.get? I = some o) : h.IsListIter I l i := ⟨o, e, x.1, x.2⟩
theorem GenO.at {h : Heap} {a : Addr} {g : Nat} {o : Obj} (x : GenO o g) (e : h.get? a = some o) : h.IsGen a g := let ⟨nm, qn, c, d, e'⟩ := x; ⟨o, nm, qn, e, c, d, e'⟩

/-- the way back out of a frame that was taken up again -/
theorem unbase {h₀ g h' : Heap} {L C : Addr} {m mC : Str → Option Value} {led : List (Addr × Obj)} (FG : Fr h₀ L g m) (F : Fr g C h' mC) (N : News g C h' led) :
    Fr h₀ L h' m ∧ ∃ oC, NsO oC mC ∧ News h₀ L h' ((C, oC) :: led) := by
  have hLC : L < C := Nat.lt_of_lt_of_le FG.ns.lt F.above
  obtain ⟨oC, eC, hC⟩ := NsO.of F.ns
  have up : ∀ b, g.get? b = none → b ≠ L ∧ h₀.get? b = none := fun b e => by
    refine ⟨fun q => ?_, ?_⟩
    · obtain ⟨o, _, _, e', _⟩ := FG.ns
      rw [q, e'] at e; cases e
    · cases q : h₀.get? b with
      | none => rfl
      | some o => rw [FG.keep b o q] at e; cases e
  refine ⟨⟨FG.ns.keeps F.keep, fun b o e => F.keep b o (FG.keep b o e), FG.above⟩, oC, hC, fun p hp => ?_⟩
  rcases List.mem_cons.mp hp with rfl | hp
  · exact ⟨eC, Nat.ne_of_gt hLC, Heap.get?_none_of_le (Nat.le_trans FG.above (Nat.le_of_lt hLC))⟩
  · exact ⟨(N p hp).1, up p.1 (N p hp).2.2⟩

section
variable {prog : Program} {w : World} {A : Around} {c : Code} {fs : List Frame} {s : Shared} {P : End → Shared → Prop}
theorem sx_wrap {α : Type} {m : Sem α} {K : α → Sem PySem.Fin} {H : Value → Sem PySem.Fin} {gd lv}
    (h : wpAny (model prog w) (A.over c fs) m (fun a s' => SegX (model prog w) A c (K a) fs s' P) (fun x s' => SegX (model prog w) A c (H x) fs s' P) s) : SegX (model prog w) A c (m.wrap K H gd lv) fs s P := by
  rintro Γ p rfl hΓ
  obtain ⟨e, s', hr, hq⟩ := runs_wrap_of_wp (Φ := fun e s' => e.quiet = true ∧ P e s') K H gd lv m (h (Γ.over fs) p (hΓ.over fs)) (fun a p' s' h' => h' Γ p' rfl hΓ) (fun x p' s' h' => h' Γ p' rfl hΓ)
  exact ⟨e, s', hr, hq⟩
theorem sx_bind_wrap {α β : Type} {m : Sem α} {K : α → Sem β} {K' : β → Sem PySem.Fin} {H' : Value → Sem PySem.Fin} {gd lv}
    (h : wpAny (model prog w) (A.over c fs) m (fun a s' => SegX (model prog w) A c ((K a).wrap K' H' gd lv) fs s' P) (fun x s' => SegX (model prog w) A c (H' x) fs s' P) s) : SegX (model prog w) A c ((m >>= K).wrap K' H' gd lv) fs s P := by
  rw [Sem.bind_eq_wrap', Sem.wrap_wrap]; exact sx_wrap h
theorem sx_at {pos : Pos} {k : Unit → Sem PySem.Fin} (x : SegX (model prog w) A c (k ()) fs s P) : SegX (model prog w) A c (.at pos k) fs s P := s_cmd prog w A c fs P (m := standAt pos) (k := k) (wpAny_standAt x)
end

section
variable {w : World} {dp un : Nat} {gd : Option (List Code)} {env : Env} {outer : List Env} {A₀ : Around} {base h₀ : Heap} {L : Addr} {m : Str → Option Value} {p : Program} {loose : List Str} {mean : ExcName → Option Value} {mg mb : Str → Option Value} {news : List (Addr × Obj)} {s : Shared} {Q E : Value → Shared → Prop}
/-- the tree of a generator's code goes on at its loop -/
noncomputable def GoOn (w : World) (c₀ : Code) (t₀ : Sem PySem.Fin) (cL : Code) (I l : Addr) : Prop :=
  ∀ (A : Around) (s : Shared) (P : End → Shared → Prop), (∃ i, s.heap.IsListIter I l i) → SegX (model PW w) A cL (denote table cL) [] s P → SegX (model PW w) A c₀ t₀ [] s P

theorem goOn_start {elt target iter : Expr} {ifs : List Expr} {scope : Scope} {pos : Pos} {I l : Addr} {genv : Env} :
    GoOn w (.compStart (.GeneratorExp elt [⟨target, iter, ifs, 0⟩] scope pos) 0 (.ref I) .none genv) (denote table (.compStart (.GeneratorExp elt [⟨target, iter, ifs, 0⟩] scope pos) 0 (.ref I) .none genv))
      (.compLoop (.GeneratorExp elt [⟨target, iter, ifs, 0⟩] scope pos) 0 (.ref I) .none genv) I l := by
  intro A s P hi x
  obtain ⟨i, hi⟩ := hi
  show SegX _ A _ ((compStart (.GeneratorExp elt [⟨target, iter, ifs, 0⟩] scope pos) 0 (.ref I) .none genv).onRaise (leaving genv)) [] s P
  unfold compStart
  rw [Sem.onRaise_eq_wrap]
  show SegX _ A _ ((ask >>= _).wrap _ _ _ _) [] s P
  refine sx_bind_wrap (wpAny_askSetting ?_)
  split
  · exact s_again (prog := PW) (w := w) (A := A) (fs := []) (P := P) _ s _ rfl x
  · refine sx_bind_wrap (wpAny_rule ?_)
    show SegX _ A _ ((standAt iter.pos >>= _).wrap _ _ _ _) [] s P
    exact sx_bind_wrap (wpAny_standAt (sx_bind_wrap (wpAny_pyIter_listiter hi (s_again (prog := PW) (w := w) (A := A) (fs := []) (P := P) _ s _ rfl x))))
theorem over_gen {elt target iter : Expr} {ifs : List Expr} {scope : Scope} {pos : Pos} {I : Addr} {genv : Env} :
    (AR dp un gd env outer).over (.compLoop (.GeneratorExp elt [⟨target, iter, ifs, 0⟩] scope pos) 0 (.ref I) .none genv) [] = AR (dp + 1) (un + 3) gd genv (env :: outer) := rfl

noncomputable abbrev tupO (xs : List Value) : Obj := { cls := .type "tuple", data := .seq xs.toArray }
/-- the sections (by number) that hold the sides, with their values: of the first i sections -/
noncomputable def candsTo (fit : Q4 → Option Int) (qs : List Q4) (i : Nat) : List (Int × Nat) := (List.range i).filterMap fun j => (qs[j]?.bind fit).map fun n => (n, j)
theorem candsTo_succ (fit : Q4 → Option Int) (qs : List Q4) (i : Nat) : candsTo fit qs (i + 1) = candsTo fit qs i ++ ((qs[i]?.bind fit).map fun n => (n, i)).toList := by
  unfold candsTo
  rw [List.range_succ, List.filterMap_append]
  congr 1

/-- what a generator's test and its word are in its frame -/
structure GenBody (w : World) (genv : Env) (outer : List Env) (cond elt : Expr) (C : Addr) (p : Program) (loose : List Str) (mean : ExcName → Option Value) (mg mb : Str → Option Value) (fz : List (Addr × Obj)) (vs : List Value) (qs : List Q4) (fit : Q4 → Option Int) (flag : Bool) : Prop where
  cond : ∀ {dp un : Nat} {gd : Option (List Code)} {A₀ : Around} {base g : Heap} {mC : Str → Option Value} {led : List (Addr × Obj)} {s : Shared} {Q : Bool → Shared → Prop} {E : Value → Shared → Prop} (j : Nat) (v : Value) (q : Q4), vs[j]? = some v → qs[j]? = some q → Cx 5 w dp un genv outer A₀ base g C mC p loose mean mg mb s.heap →
    News g C s.heap led → (∀ p ∈ fz, p ∈ led) → mC "s" = some v → (∀ h' tk', Fr g C h' mC → News g C h' led → Q (fit q).isSome { s with heap := h', toks := tk' }) → wpAny (model PW w) (AR dp un gd genv outer) (isTrue cond genv (eval cond genv)) Q E s
  elt : ∀ {dp un : Nat} {gd : Option (List Code)} {A₀ : Around} {base g : Heap} {mC : Str → Option Value} {led : List (Addr × Obj)} {s : Shared} {Q : Value → Shared → Prop} {E : Value → Shared → Prop} (j : Nat) (v : Value) (q : Q4) (n : Int), vs[j]? = some v → qs[j]? = some q → fit q = some n → Cx 5 w dp un genv outer A₀ base g C mC p loose mean mg mb s.heap →
    News g C s.heap led → (∀ p ∈ fz, p ∈ led) → mC "s" = some v → (∀ t tk h' tk', Fr g C h' mC → News g C h' ((t, tupO [.int n tk, v, .bool flag]) :: led) → (∀ p ∈ led, @LT.lt Nat _ p.1 t) → Q (.ref t) { s with heap := h', toks := tk' }) → wpAny (model PW w) (AR dp un gd genv outer) (eval elt genv) Q E s

theorem gen_loop {genv : Env} {cond elt iter : Expr} {px : Pos} {scope : Scope} {pos : Pos} {I l C : Addr} {ns : Nat} {fz led : List (Addr × Obj)} {vs : List Value} {qs : List Q4} {fit : Q4 → Option Int} {flag : Bool} {g : Heap} {P : End → Shared → Prop} {i₀ : Nat}
    (G : GenBody w genv (env :: outer) cond elt C p loose mean mg mb fz vs qs fit flag) (hlen : vs.length = qs.length) (hC : genv.locals = C) (hx : genv.kindOf "s" = some .local) (hk : genv.scope.kind = .function) (hco : genv.scope.isCoroutine = false) (hfr : genv.frame = some C)
    (B : Below A₀ base (env :: outer) g) (X : (Mine.K w.params).In g) (T : Top p loose mean mg mb g) (hd : dp + 6 < recursionLimit) (hu : un + 120 < cLine) (hl : (l, listOf vs.toArray ns) ∈ fz) (hfz : ∀ p ∈ fz, p ∈ led) (hI : ∀ p ∈ led, p.1 ≠ I)
    (hEnd : ∀ h' tk' mC', candsTo fit qs qs.length = candsTo fit qs i₀ → Fr g C h' mC' → News g C h' led → P (.ret (.ok .next)) { s with heap := h', toks := tk' })
    (hYield : ∀ j n v t tk oI' h' tk' mC' k lv p', i₀ ≤ j → j < qs.length → candsTo fit qs (j + 1) = candsTo fit qs i₀ ++ [(n, j)] → vs[j]? = some v → Fr g C h' mC' → News g C h' ((t, tupO [.int n tk, v, .bool flag]) :: (I, oI') :: led) →
      IterO oI' l (j + 1) → (∀ p ∈ (I, oI') :: led, @LT.lt Nat _ p.1 t) → GoOn w (.compLoop (.GeneratorExp elt [⟨.Name "s" px, iter, [cond], 0⟩] scope pos) 0 (.ref I) .none genv) (k (.send .none)) (.compLoop (.GeneratorExp elt [⟨.Name "s" px, iter, [cond], 0⟩] scope pos) 0 (.ref I) .none genv) I l →
      P (.susp (.ref t) false lv k (.compLoop (.GeneratorExp elt [⟨.Name "s" px, iter, [cond], 0⟩] scope pos) 0 (.ref I) .none genv) p' []) { s with heap := h', toks := tk' }) :
    ∀ (k i : Nat) (h₁ : Heap) (t₁ : Tok) (mC : Str → Option Value) (oI : Obj), qs.length - i = k → i ≤ qs.length → i₀ ≤ i → candsTo fit qs i = candsTo fit qs i₀ → Fr g C h₁ mC → News g C h₁ ((I, oI) :: led) → IterO oI l i →
      SegX (model PW w) (AR dp un gd env outer) (.compLoop (.GeneratorExp elt [⟨.Name "s" px, iter, [cond], 0⟩] scope pos) 0 (.ref I) .none genv)
        (denote table (.compLoop (.GeneratorExp elt [⟨.Name "s" px, iter, [cond], 0⟩] scope pos) 0 (.ref I) .none genv)) [] { s with heap := h₁, toks := t₁ } P := by
  subst hC
  intro k
  induction k with
  | zero =>
    intro i h₁ t₁ mC oI hki hi hi0 hc F N hI'
    have hin : i = qs.length := by omega
    subst hin
    show SegX _ _ _ ((compTurn (.GeneratorExp elt [⟨.Name "s" px, iter, [cond], 0⟩] scope pos) 0 (.ref I) .none genv).onRaise (leaving genv)) [] _ P
    rw [compTurn_gen, Sem.onRaise_eq_wrap]
    refine sx_bind_wrap (wpAny_standAt ?_)
    have nI := N _ (.head _)
    have nl := N _ (.tail _ (hfz _ hl))
    refine sx_bind_wrap (wpAny_pyNext_list_end rfl (hI'.at nI.1) (items := vs.toArray) ⟨_, nl.1, rfl, _, rfl⟩ (by simp [hlen]) fun h' he => ?_)
    refine s_end (prog := PW) (w := w) (A := _) (P := P) _ _ (.ok .next) _ rfl (hEnd h' t₁ mC hc ⟨F.ns.extBut he nI.2.1.symm, fun b o e => he b o (fun q => ?_) (F.keep b o e), F.above⟩ fun p hp => ⟨he _ _ (hI p hp) (N p (.tail _ hp)).1, (N p (.tail _ hp)).2⟩)
    rw [q, nI.2.2] at e; cases e
  | succ k ih =>
    intro i h₁ t₁ mC oI hki hi hi0 hc F N hI'
    have hlt : i < qs.length := by omega
    show SegX _ _ _ ((compTurn (.GeneratorExp elt [⟨.Name "s" px, iter, [cond], 0⟩] scope pos) 0 (.ref I) .none genv).onRaise (leaving genv)) [] _ P
    rw [compTurn_gen, Sem.onRaise_eq_wrap]
    refine sx_bind_wrap (wpAny_standAt ?_)
    have nI := N _ (.head _)
    have nl := N _ (.tail _ (hfz _ hl))
    obtain ⟨v, hv⟩ : ∃ v, vs[i]? = some v := ⟨vs[i]'(by omega), by simp⟩
    obtain ⟨q, hq⟩ : ∃ q, qs[i]? = some q := ⟨qs[i], by simp⟩
    refine sx_bind_wrap (wpAny_pyNext_list_item (hI'.at nI.1) (items := vs.toArray) ⟨_, nl.1, rfl, _, rfl⟩ (by simpa using hv) fun h₂ hit₂ hs₂ => ?_)
    obtain ⟨oI₂, eI₂, hcI₂, hdI₂⟩ := hit₂
    have F₂ := F.change hs₂ nI.2.1 nI.2.2
    have N₂ : News g genv.locals h₂ ((I, oI₂) :: led) := fun p hp => by
      rcases List.mem_cons.mp hp with rfl | hp
      · exact ⟨eI₂, nI.2⟩
      · exact ⟨(hs₂.2 _ (hI p hp)).trans (N p (.tail _ hp)).1, (N p (.tail _ hp)).2⟩
    refine sx_bind_wrap (wpAny_of_eq (rfl : letOwnedTupleGo (.Name "s" px) (.ref I) v = pure ()) ?_)
    refine sx_bind_wrap (wpAny_assign_Name (wpAny_storeName_local hx F₂.ns (fun h₃ hn₃ hs₃ => ?_) (by rw [hk]; rfl)))
    have F₃ := F₂.set hn₃ hs₃
    have N₃ := N₂.set hs₃
    have cx : ∀ {h}, Fr g genv.locals h (fun y => if y = "s" then some v else mC y) → Cx 5 w (dp + 1) (un + 3) genv (env :: outer) A₀ base g genv.locals (fun y => if y = "s" then some v else mC y) p loose mean mg mb h := fun F => ⟨B, F, X, T, hfr, hk, by omega, by omega⟩
    refine sx_bind_wrap ?_
    refine wpAny_bind (wpAny_bind ?_)
    show wpAny _ (AR (dp + 1) (un + 3) gd genv (env :: outer)) _ _ _ _
    refine G.cond i v q hv hq (cx F₃) N₃ (fun p hp => .tail _ (hfz p hp)) (by simp) fun h₄ tk₄ F₄ N₄ => ?_
    refine wpAny_pure (wpAny_pure ?_)
    cases hfit : fit q with
    | none =>
      simp only [hfit, Option.isSome_none, Bool.false_eq_true, if_false]
      refine s_again (prog := PW) (w := w) (A := _) (fs := []) (P := P) _ _ _ rfl (ih (i + 1) h₄ tk₄ _ _ (by omega) hlt (by omega) ?_ F₄ N₄ ⟨hcI₂, hdI₂⟩)
      rw [candsTo_succ, hq, Option.bind_some, hfit, ← hc]; simp
    | some n =>
      simp only [hfit, Option.isSome_some, if_true]
      have hy : ∀ v, yieldOut genv v = yieldValue v := fun v => by simp only [yieldOut, hco, Bool.false_eq_true, if_false]
      simp only [hy]
      rw [Sem.bind_eq_wrap', Sem.bind_eq_wrap', Sem.wrap_wrap, Sem.wrap_wrap]
      refine sx_wrap ?_
      show wpAny _ (AR (dp + 1) (un + 3) gd genv (env :: outer)) _ _ _ _
      refine G.elt i v q n hv hq hfit (cx F₄) N₄ (fun p hp => .tail _ (hfz p hp)) (by simp) fun t tk h₅ tk₅ F₅ N₅ l₅ => ?_
      refine sx_at ?_
      refine s_yield (prog := PW) (w := w) (A := _) (c := _) (fs := []) (P := P) _ _ _ _ rfl rfl fun p' => ?_
      refine hYield i n v t tk oI₂ h₅ tk₅ _ _ _ p' hi0 hlt ?_ hv F₅ N₅ ⟨hcI₂, hdI₂⟩ l₅ ?_
      · rw [candsTo_succ, hq, Option.bind_some, hfit, ← hc]; rfl
      · intro A' s' P' _ x
        exact s_again (prog := PW) (w := w) (A := A') (fs := []) (P := P') _ s' _ rfl x
end
end Mine
namespace Mine
open PySem.W.X
/-- a list of candidates: tuples (value, section, turn) of the ledger -/
noncomputable def CandsIn (led : List (Addr × Obj)) (vs : List Value) (flag : Bool) : List Value → List (Int × Nat) → Prop
  | [], [] => True
  | u :: us, c :: cs => (∃ t tk v, u = .ref t ∧ vs[c.2]? = some v ∧ (t, tupO [.int c.1 tk, v, .bool flag]) ∈ led) ∧ CandsIn led vs flag us cs
  | _, _ => False
theorem CandsIn.mono {led led' : List (Addr × Obj)} {vs : List Value} {flag : Bool} (hs : ∀ p ∈ led, p ∈ led') : ∀ {us : List Value} {cs : List (Int × Nat)}, CandsIn led vs flag us cs → CandsIn led' vs flag us cs
  | [], [], _ => trivial
  | _ :: _, _ :: _, h => ⟨let ⟨t, tk, v, a, b, c⟩ := h.1; ⟨t, tk, v, a, b, hs _ c⟩, CandsIn.mono hs h.2⟩
  | [], _ :: _, h => h.elim
  | _ :: _, [], h => h.elim
theorem CandsIn.snoc {led : List (Addr × Obj)} {vs : List Value} {flag : Bool} {t : Addr} {tk : Tok} {n : Int} {j : Nat} {v : Value} (hv : vs[j]? = some v) (hm : (t, tupO [.int n tk, v, .bool flag]) ∈ led) :
    ∀ {us : List Value} {cs : List (Int × Nat)}, CandsIn led vs flag us cs → CandsIn led vs flag (us ++ [.ref t]) (cs ++ [(n, j)])
  | [], [], _ => ⟨⟨t, tk, v, rfl, hv, hm⟩, trivial⟩
  | _ :: _, _ :: _, h => ⟨h.1, CandsIn.snoc hv hm h.2⟩
  | [], _ :: _, h => h.elim
  | _ :: _, [], h => h.elim
theorem CandsIn.length {led : List (Addr × Obj)} {vs : List Value} {flag : Bool} : ∀ {us : List Value} {cs : List (Int × Nat)}, CandsIn led vs flag us cs → us.length = cs.length
  | [], [], _ => rfl
  | _ :: _, _ :: _, h => congrArg (· + 1) (CandsIn.length h.2)
  | [], _ :: _, h => h.elim
  | _ :: _, [], h => h.elim
theorem candsTo_len (fit : Q4 → Option Int) (qs : List Q4) (i : Nat) : (candsTo fit qs i).length ≤ i := by
  unfold candsTo
  exact Nat.le_trans (List.length_filterMap_le _ _) (by simp)

section
variable {w : World} {dp un : Nat} {gd : Option (List Code)} {env : Env} {outer : List Env} {A₀ : Around} {base h₀ : Heap} {L : Addr} {m : Str → Option Value} {p : Program} {loose : List Str} {mean : ExcName → Option Value} {mg mb : Str → Option Value} {news : List (Addr × Obj)} {s : Shared} {Q E : Value → Shared → Prop}
/-- the list that a sleeping generator feeds, at the first i sections -/
inductive GenSt (w : World) (h₀ : Heap) (L : Addr) (m : Str → Option Value) (cL : Code) (I l C a S : Addr) (gn : Nat) (gens₀ : Array GenState) (os₀ : OsState) (fz : List (Addr × Obj)) (vs : List Value) (qs : List Q4) (fit : Q4 → Option Int) (flag : Bool) (r : Nat) (acc : List Value) (o : Obj) (s : Shared) : Prop
  | mk (i : Nat) (oI oC oa : Obj) (tups : List (Addr × Obj)) (gs : GenState) (c₀ : Code) (t₀ : Sem PySem.Fin) (mC : Str → Option Value) (hr : r = qs.length - i) (hi : i ≤ qs.length) (F : Fr h₀ L s.heap m) (N : News h₀ L s.heap ((S, o) :: (I, oI) :: (C, oC) :: (a, oa) :: (tups ++ fz))) (h1 : IterO oI l i) (h2 : NsO oC mC) (h3 : GenO oa gn)
    (h4 : ∀ p ∈ tups, S < p.1) (h5 : CandsIn tups vs flag acc (candsTo fit qs i)) (h6 : s.gens[gn]? = some gs) (h7 : Wake w PW gs c₀ t₀) (h8 : GoOn w c₀ t₀ cL I l) (h9 : AllBare s.gens) (h10 : s.os = os₀) (h11 : ∀ k, k ≠ gn → s.gens[k]? = gens₀[k]?)
/-- the list when the generator is at its end -/
inductive GenFn (h₀ : Heap) (L : Addr) (m : Str → Option Value) (S : Addr) (gn : Nat) (gens₀ : Array GenState) (os₀ : OsState) (fz : List (Addr × Obj)) (vs : List Value) (qs : List Q4) (fit : Q4 → Option Int) (flag : Bool) (acc : List Value) (o : Obj) (s : Shared) : Prop
  | mk (tups : List (Addr × Obj)) (F : Fr h₀ L s.heap m) (N : News h₀ L s.heap ((S, o) :: (tups ++ fz))) (h1 : ∀ p ∈ tups, S < p.1) (h2 : CandsIn tups vs flag acc (candsTo fit qs qs.length)) (h3 : AllBare s.gens) (h4 : s.os = os₀) (h5 : ∀ k, k ≠ gn → s.gens[k]? = gens₀[k]?)
theorem allBare_set {gens : Array GenState} {gn : Nat} {gs : GenState} (h : AllBare gens) (hb : gs.bare = true) : AllBare (gens.setIfInBounds gn gs) := fun y hy => by
  obtain ⟨i, hi, rfl⟩ := Array.mem_iff_getElem.mp hy
  rw [Array.size_setIfInBounds] at hi
  rw [Array.getElem_setIfInBounds hi]
  split
  · exact hb
  · exact h _ (Array.getElem_mem _)

theorem gen_feeds {genv : Env} {cond elt iter : Expr} {px : Pos} {scope : Scope} {pos : Pos} {I l C a S : Addr} {gn ns : Nat} {gens₀ : Array GenState} {os₀ : OsState} {fz : List (Addr × Obj)} {vs : List Value} {qs : List Q4} {fit : Q4 → Option Int} {flag : Bool}
    (G : GenBody w genv (env :: outer) cond elt C p loose mean mg mb fz vs qs fit flag) (hlen : vs.length = qs.length) (hC : genv.locals = C) (hx : genv.kindOf "s" = some .local) (hk : genv.scope.kind = .function) (hco : genv.scope.isCoroutine = false) (hfr : genv.frame = some C)
    (B : Below A₀ base outer h₀) (X : (Mine.K w.params).In h₀) (T : Top p loose mean mg mb h₀) (hf : env.frame = some L) (hke : env.scope.kind = .function) (hd : dp + 6 < recursionLimit) (hu : un + 130 < cLine) (hl : (l, listOf vs.toArray ns) ∈ fz)
    (hsz : qs.length ≤ 1000) (hfz : ∀ p ∈ fz, p.1 ≠ I ∧ p.1 ≠ C ∧ p.1 < S) (hLC : L < C) (hIC : I < C) (hCa : C < a) (haS : a < S) :
    Feeds PW w (AR dp un gd env outer).in1.in1 a S (GenSt w h₀ L m (.compLoop (.GeneratorExp elt [⟨.Name "s" px, iter, [cond], 0⟩] scope pos) 0 (.ref I) .none genv) I l C a S gn gens₀ os₀ fz vs qs fit flag) (GenFn h₀ L m S gn gens₀ os₀ fz vs qs fit flag) where
  gen := by
    rintro r acc o s ⟨i, oI, oC, oa, tups, gs, c₀, t₀, mC, -, -, F, N, -, -, hg, -⟩
    exact ⟨gn, hg.at (N _ (.tail _ (.tail _ (.tail _ (.head _))))).1⟩
  got := by
    rintro r acc o s ⟨i, oI, oC, oa, tups, gs, c₀, t₀, mC, -, -, F, N, -⟩
    exact (N _ (.head _)).1
  ne := Nat.ne_of_gt haS
  size := by
    rintro r acc o s ⟨i, oI, oC, oa, tups, gs, c₀, t₀, mC, hr, hi, F, N, -, -, -, -, hc, -⟩
    have := hc.length
    have := candsTo_len fit qs i
    omega
  set := by
    rintro r acc o o' s h' ⟨i, oI, oC, oa, tups, gs, c₀, t₀, mC, hr, hi, F, N, h1, h2, h3, h4, h5, h6, h7, h8, h9, h10, h11⟩ _ he hs
    have nS := N _ (.head _)
    refine ⟨i, oI, oC, oa, tups, gs, c₀, t₀, mC, hr, hi, F.change hs nS.2.1 nS.2.2, fun p hp => ?_, h1, h2, h3, h4, h5, h6, h7, h8, h9, h10, h11⟩
    rcases List.mem_cons.mp hp with rfl | hp
    · exact ⟨he, nS.2⟩
    · have np := N p (.tail _ hp)
      refine ⟨(hs.2 _ ?_).trans np.1, np.2⟩
      rcases List.mem_cons.mp hp with rfl | hp
      · exact Nat.ne_of_lt (Nat.lt_trans hIC (Nat.lt_trans hCa haS))
      rcases List.mem_cons.mp hp with rfl | hp
      · exact Nat.ne_of_lt (Nat.lt_trans hCa haS)
      rcases List.mem_cons.mp hp with rfl | hp
      · exact Nat.ne_of_lt haS
      rcases List.mem_append.mp hp with hp | hp
      · exact Nat.ne_of_gt (h4 p hp)
      · exact Nat.ne_of_lt (hfz p hp).2.2
  next := by
    rintro r acc o s Q E ⟨i, oI, oC, oa, tups, gs, c₀, t₀, mC, hr, hi, F, N, hI, hN, hg, htup, hcs, hgs, hw, hgo, hab, hos, hk'⟩ qN qS
    have nS := N _ (.head _)
    have nI := N _ (.tail _ (.head _))
    have nC := N _ (.tail _ (.tail _ (.head _)))
    have na := N _ (.tail _ (.tail _ (.tail _ (.head _))))
    have hne : ∀ q ∈ (I, oI) :: (S, o) :: (a, oa) :: (tups ++ fz), q.1 ≠ C := fun q hq => by
      rcases List.mem_cons.mp hq with rfl | hq
      · exact Nat.ne_of_lt hIC
      rcases List.mem_cons.mp hq with rfl | hq
      · exact Nat.ne_of_gt (Nat.lt_trans hCa haS)
      rcases List.mem_cons.mp hq with rfl | hq
      · exact Nat.ne_of_gt hCa
      rcases List.mem_append.mp hq with hq | hq
      · exact Nat.ne_of_gt (Nat.lt_trans (Nat.lt_trans hCa haS) (htup q hq))
      · exact (hfz q hq).2.1
    have hneI : ∀ q ∈ (S, o) :: (a, oa) :: (tups ++ fz), q.1 ≠ I := fun q hq => by
      rcases List.mem_cons.mp hq with rfl | hq
      · exact Nat.ne_of_gt (Nat.lt_trans hIC (Nat.lt_trans hCa haS))
      rcases List.mem_cons.mp hq with rfl | hq
      · exact Nat.ne_of_gt (Nat.lt_trans hIC hCa)
      rcases List.mem_append.mp hq with hq | hq
      · exact Nat.ne_of_gt (Nat.lt_trans (Nat.lt_trans hIC (Nat.lt_trans hCa haS)) (htup q hq))
      · exact (hfz q hq).1
    have N' : News h₀ L s.heap ((I, oI) :: (S, o) :: (a, oa) :: (tups ++ fz)) := fun q hq => by
      rcases List.mem_cons.mp hq with rfl | hq
      · exact nI
      rcases List.mem_cons.mp hq with rfl | hq
      · exact nS
      rcases List.mem_cons.mp hq with rfl | hq
      · exact na
      · exact N q (.tail _ (.tail _ (.tail _ (.tail _ hq))))
    obtain ⟨g, FG, FC, NC⟩ := rebase F N' hLC (hN.ns nC.1) hne
    have BG : Below (AR dp (un + 3) gd env outer) base (env :: outer) g := belowPush (h := g) (A' := AR dp (un + 3) gd env outer) B FG rfl hke hf
    refine nextGenX (A := (AR dp un gd env outer).in1.in1) rfl ((T.nolimit).keeps F.keep) (by show dp < _; omega) (hg.at na.1) hgs hw ?_
    refine hgo _ _ _ ⟨i, hI.at nI.1⟩ ?_
    refine gen_loop (dp := dp) (un := un + 3) (gd := gd) (s := s.setGen gn .running) (led := (S, o) :: (a, oa) :: (tups ++ fz)) (i₀ := i) G hlen hC hx hk hco hfr BG (X.keeps FG.keep) (T.keeps FG.keep) hd (by omega) hl (fun p hp => .tail _ (.tail _ (List.mem_append_right _ hp))) hneI
      (fun h' tk' mC' hc F' N₁ => ?_) (fun j n v t tk oI' h' tk' mC' k lv p' hj hjn hc hv F' N₁ hI₁ ht hgo' => ?_) _ i s.heap s.toks mC oI rfl hi (Nat.le_refl _) rfl FC NC hI
    · intro o₁ o₂ _ _
      obtain ⟨FL, oC', _, NL⟩ := unbase FG F' N₁
      refine qN _ ⟨tups, (FL.push _).push _, ?_, htup, hc ▸ hcs, allBare_set (allBare_set hab rfl) rfl, hos, fun k hk => ?_⟩
      · intro q hq
        have : q ∈ (C, oC') :: (S, o) :: (a, oa) :: (tups ++ fz) := by
          rcases List.mem_cons.mp hq with rfl | hq
          · exact .tail _ (.head _)
          · exact .tail _ (.tail _ (.tail _ hq))
        exact ⟨Heap.get?_push_of_some _ (Heap.get?_push_of_some _ (NL q this).1), (NL q this).2⟩
      · show ((s.gens.setIfInBounds gn .running).setIfInBounds gn _)[k]? = _
        rw [Array.getElem?_setIfInBounds_ne (Ne.symm hk), Array.getElem?_setIfInBounds_ne (Ne.symm hk)]
        exact hk' k hk
    · obtain ⟨FL, oC', hC', NL⟩ := unbase FG F' N₁
      refine qS (qs.length - (j + 1)) (.ref t) _ (by omega) ⟨j + 1, oI', oC', oa, (t, tupO [.int n tk, v, .bool flag]) :: tups, .suspended k lv (.compLoop (.GeneratorExp elt [⟨.Name "s" px, iter, [cond], 0⟩] scope pos) 0 (.ref I) .none genv) p' [] false, .compLoop (.GeneratorExp elt [⟨.Name "s" px, iter, [cond], 0⟩] scope pos) 0 (.ref I) .none genv, k (.send .none), mC', rfl, hjn, FL, ?_, hI₁, hC', hg, ?_, ?_, ?_, .inr ⟨k, lv, p', false, rfl, rfl⟩, hgo', allBare_set (allBare_set hab rfl) rfl, hos, fun k hk => ?_⟩
      · intro q hq
        refine NL q ?_
        rcases List.mem_cons.mp hq with rfl | hq
        · exact .tail _ (.tail _ (.tail _ (.head _)))
        rcases List.mem_cons.mp hq with rfl | hq
        · exact .tail _ (.tail _ (.head _))
        rcases List.mem_cons.mp hq with rfl | hq
        · exact .head _
        rcases List.mem_cons.mp hq with rfl | hq
        · exact .tail _ (.tail _ (.tail _ (.tail _ (.head _))))
        rcases List.mem_cons.mp hq with rfl | hq
        · exact .tail _ (.head _)
        · exact .tail _ (.tail _ (.tail _ (.tail _ (.tail _ hq))))
      · intro q hq
        rcases List.mem_cons.mp hq with rfl | hq
        · exact ht _ (.tail _ (.head _))
        · exact htup q hq
      · rw [hc]
        exact CandsIn.snoc hv (.head _) (hcs.mono fun p hp => .tail _ hp)
      · show ((s.gens.setIfInBounds gn .running).setIfInBounds gn _)[gn]? = _
        have : gn < s.gens.size := by
          rcases Nat.lt_or_ge gn s.gens.size with h | h
          · exact h
          · rw [Array.getElem?_eq_none h] at hgs; cases hgs
        rw [Array.getElem?_setIfInBounds_self_of_lt (by simpa using this)]
        rfl
      · show ((s.gens.setIfInBounds gn .running).setIfInBounds gn _)[k]? = _
        rw [Array.getElem?_setIfInBounds_ne (Ne.symm hk), Array.getElem?_setIfInBounds_ne (Ne.symm hk)]
        exact hk' k hk
end
end Mine
namespace Mine
/-- a code's table of inner codes after one more was asked at pos -/
noncomputable def TabStep (pos : Pos) (ps ps' : Array Value) : Prop := ps' = ps ∨ (codeAmong pos ps.toList = none ∧ ∃ c', ps' = ps ++ #[rawInt pos.line, rawInt pos.col, .ref c'])
theorem codeAmong_other {pos pos' : Pos} {c : Value} (hne : pos.line ≠ pos'.line) (l : List Value) (h : TriplesOk l) : codeAmong pos' (l ++ [rawInt pos.line, rawInt pos.col, c]) = codeAmong pos' l := by
  fun_induction TriplesOk l with
  | case1 =>
    have : ((pos.line : Int) == (pos'.line : Int)) = false := beq_eq_false_iff_ne.mpr fun h => hne (Int.ofNat_inj.mp h)
    simp [codeAmong, rawInt, this]
  | case2 a t b u x rest ih =>
    simp only [List.cons_append, codeAmong]
    split
    · rfl
    · exact ih h
  | case3 l h1 h2 => exact h.elim
theorem TabStep.ok {pos : Pos} {ps ps' : Array Value} (x : TabStep pos ps ps') (h : TriplesOk ps.toList) : TriplesOk ps'.toList := by
  rcases x with rfl | ⟨_, c', rfl⟩
  · exact h
  · rw [Array.toList_append]; exact TriplesOk_snoc _ _ _ _ h
theorem TabStep.other {pos pos' : Pos} {ps ps' : Array Value} (x : TabStep pos ps ps') (h : TriplesOk ps.toList) (hne : pos.line ≠ pos'.line) : codeAmong pos' ps'.toList = codeAmong pos' ps.toList := by
  rcases x with rfl | ⟨_, c', rfl⟩
  · rfl
  · rw [Array.toList_append]; exact codeAmong_other hne _ h

section
variable {w : World} {dp un : Nat} {gd : Option (List Code)} {env : Env} {outer : List Env} {A₀ : Around} {base h₀ : Heap} {L : Addr} {m : Str → Option Value} {p : Program} {loose : List Str} {mean : ExcName → Option Value} {mg mb : Str → Option Value} {news : List (Addr × Obj)} {s : Shared} {Q E : Value → Shared → Prop}
theorem genexp_code {A : Around} {Q : Value → Shared → Prop} {env : Env} {c P : Addr} {ps : Array Value} {pos : Pos} {qualname : Str} {scope : Scope} (hc : env.code = .ref c) (Cd : CodeHd s.heap c P) (hP : s.heap.get? P = some (tabObj ps)) (ht : TriplesOk ps.toList)
    (hQ : ∀ code ps' h' tk', Heap.ExtBut P s.heap h' → h'.get? P = some (tabObj ps') → s.heap.objs.size ≤ h'.objs.size → TabStep pos ps ps' → Q code { s with heap := h', toks := tk' }) :
    wpAny (model PW w) A (genexprCode env pos qualname scope) Q E s := by
  cases hf : codeAmong pos ps.toList with
  | some cv => exact wpAny_genexprCode_hit hc (Cd.code hP ht) hf (hQ cv ps s.heap s.toks (Heap.ExtBut.refl _ _) hP (Nat.le_refl _) (.inl rfl))
  | none => exact wpAny_genexprCodeX hc (Cd.code hP ht) (Cd.tab hP) hf fun c' h' tk hx hge hlt _ _ htab _ => hQ _ _ h' tk hx htab.2 (Nat.le_of_lt (Nat.lt_of_le_of_lt hge hlt)) (.inr ⟨hf, c', rfl⟩)

theorem genexp_mk {A : Around} {Q : Value → Shared → Prop} {elt iter target : Expr} {ifs : List Expr} {scope : Scope} {pos : Pos} {cl : List (Str × Addr)} {c P l : Addr} {ns : Nat} {ps : Array Value} {vs : List Value} {gU : Obj → List (Addr × Obj)}
    (F : Fr h₀ L s.heap m) (N : News h₀ L s.heap news) (T : Top p loose mean mg mb h₀) (Cd : CodeHd h₀ c P) (hcd : env.code = .ref c) (U : UpdF P (tabObj ps) news gU) (ht : TriplesOk ps.toList) (hgl : env.globals = mainGlobals) (hl : (l, listOf vs.toArray ns) ∈ news) (hroom : A.depth < recursionLimit)
    (hclos : closureFor scope env = pure cl) (hco : scope.isCoroutine = false) (hcell : ∀ y ∈ scope.names, y.2 ≠ .cell) (h0 : scope.names.lookup (".0" : Str) = some NameKind.local) (hkind : scope.kind = .function) (hs : ∀ x, genFold iter env x = pure x)
    (hit : wpAny (model PW w) A (eval iter env) (fun xv s₁ => ∃ h1 tk1, s₁ = { s with heap := h1, toks := tk1 } ∧ xv = .ref l ∧ Fr h₀ L h1 m ∧ News h₀ L h1 news) E s)
    (ret : ∀ I oI C oC a oa code ps' h' tk', Fr h₀ L h' m → News h₀ L h' ((a, oa) :: (C, oC) :: (I, oI) :: gU (tabObj ps')) → IterO oI l 0 → NsO oC (fun y => if y = ".0" then some (.ref I) else none) → GenO oa s.gens.size →
      (∀ p ∈ news, @LT.lt Nat _ p.1 I) → @LT.lt Nat _ L I → @LT.lt Nat _ I C → @LT.lt Nat _ C a → TabStep pos ps ps' →
      Q (.ref a) { s with gens := s.gens.push (.fresh (.compStart (.GeneratorExp elt [⟨target, iter, ifs, 0⟩] scope pos) 0 (.ref I) .none (genEnv scope cl C code builtinsNs env))), heap := h', toks := tk' }) :
    wpAny (model PW w) A (eval (.GeneratorExp elt [⟨target, iter, ifs, 0⟩] scope pos) env) Q E s := by
  refine wpAny_GeneratorExp_make hco hclos hcell h0 hkind hroom (wpAny_mono hit (fun xv s₁ h₁ => ?_) fun _ _ e => e) hs
  obtain ⟨h1, tk1, rfl, rfl, F1, N1⟩ := h₁
  refine wpAny_pyIter_list ⟨_, (N1 _ hl).1, rfl, _, rfl⟩ ?_
  have F2 := F1.push { cls := .type "list_iterator", data := .fields #[.ref l, .int 0 0] }
  refine ⟨(T.nolimit).keeps F2.keep, ?_⟩
  obtain ⟨own, rest, rfl, hgr, hu1, hu2⟩ := U.split
  have hmP := N1 (P, tabObj ps) (List.mem_append_right _ (.head _))
  refine genexp_code hcd (Cd.keeps F2.keep) (Heap.get?_push_of_some _ hmP.1) ht fun code ps' h' tk' hx hP' hsz hstep => ?_
  have hlt : ∀ q ∈ own ++ (P, tabObj ps) :: rest, q.1 < h1.objs.size := fun q hq => Heap.lt_size (N1 q hq).1
  have hLs : L < h1.objs.size := F1.ns.lt
  have hPL : P ≠ h1.objs.size := Nat.ne_of_lt (Heap.lt_size hmP.1)
  have hz : h1.objs.size < h'.objs.size := Nat.lt_of_lt_of_le (by show h1.objs.size < (h1.push _).objs.size; rw [Heap.size_push]; exact Nat.lt_succ_self _) hsz
  have old : ∀ b o, h₀.get? b = some o → h'.get? b = some o := fun b o e => hx b o (fun q => by rw [q, hmP.2.2] at e; cases e) (F2.keep b o e)
  have hgs := T.g.keeps old
  obtain ⟨bm, ob, b1, b2, b3, b4, b5, b6⟩ := T.bmain
  rw [hgl]
  refine wpAny_builtinsFor hgs b1 b2 (old _ _ b3) b4 b5 b6 ?_
  intro h₄ hn₄ hs₄
  have fresh : ∀ b, L < b → h₀.get? b = none := fun b hb => Heap.get?_none_of_le (Nat.le_trans F1.above (Nat.le_of_lt hb))
  have keep₄ : ∀ b o, h'.get? b = some o → h₄.get? b = some o := fun b o e => hs₄.extBut b o (Nat.ne_of_lt (Heap.lt_size e)) (Heap.get?_push_of_some _ e)
  have hsz₄ : h₄.objs.size = h'.objs.size + 1 := by rw [hs₄.1, Heap.size_push]
  obtain ⟨oC, eC, hC⟩ := NsO.of hn₄
  have eI : h'.get? h1.objs.size = some { cls := .type "list_iterator", data := .fields #[.ref l, .int 0 0] } := hx _ _ hPL.symm (Heap.get?_push_size _ rfl)
  have hC4 : h'.objs.size < h₄.objs.size := by rw [hsz₄]; exact Nat.lt_succ_self _
  refine ret h1.objs.size { cls := .type "list_iterator", data := .fields #[.ref l, .int 0 0] } h'.objs.size oC h₄.objs.size { cls := .type "generator", data := .fields #[.int s.gens.size 0, .str "<genexpr>" (tk' + 1), .str (env.qual ++ "<genexpr>") (tk' + 1 + 1)] } code ps' _ _
    ⟨((F2.ns.extBut hx hmP.2.1.symm).keeps keep₄).push _, fun b o e => Heap.get?_push_of_some _ (keep₄ b o (old b o e)), F1.above⟩ (fun q hq => ?_) ⟨rfl, rfl⟩ hC ⟨_, _, rfl, rfl, rfl⟩ hlt hLs hz hC4 hstep
  rcases List.mem_cons.mp hq with rfl | hq
  · exact ⟨Heap.get?_push_size _ rfl, Nat.ne_of_gt (Nat.lt_trans (Nat.lt_trans hLs hz) hC4), fresh _ (Nat.lt_trans (Nat.lt_trans hLs hz) hC4)⟩
  rcases List.mem_cons.mp hq with rfl | hq
  · exact ⟨Heap.get?_push_of_some _ eC, Nat.ne_of_gt (Nat.lt_trans hLs hz), fresh _ (Nat.lt_trans hLs hz)⟩
  rcases List.mem_cons.mp hq with rfl | hq
  · exact ⟨Heap.get?_push_of_some _ (keep₄ _ _ eI), Nat.ne_of_gt hLs, fresh _ hLs⟩
  rw [hgr] at hq
  rcases List.mem_append.mp hq with hq | hq
  · have n := N1 q (List.mem_append_left _ hq)
    exact ⟨Heap.get?_push_of_some _ (keep₄ _ _ (hx _ _ (hu1 q hq) (Heap.get?_push_of_some _ n.1))), n.2⟩
  rcases List.mem_cons.mp hq with rfl | hq
  · exact ⟨Heap.get?_push_of_some _ (keep₄ _ _ hP'), hmP.2⟩
  · have n := N1 q (List.mem_append_right _ (.tail _ hq))
    exact ⟨Heap.get?_push_of_some _ (keep₄ _ _ (hx _ _ (hu2 q hq) (Heap.get?_push_of_some _ n.1))), n.2⟩

/-- names in a generator's own frame -/
theorem nameG_L {A : Around} {Q : Value → Shared → Prop} {x : Str} {pos : Pos} {v : Value} (F : autoParam (Fr h₀ L s.heap m) Mine.aT5) (hv : autoParam (m x = some v) Mine.aT3) (h : Q v s) (hL : autoParam (env.locals = L) Mine.aT9) (hk : autoParam (env.scope.kind = .function) Mine.aT9) (hx : autoParam (env.kindOf x = some .local) Mine.aT9) (hd : autoParam ((x == ("__debug__" : Str)) = false) Mine.aT10) :
    wpAny (model PW w) A (eval (.Name x pos) env) Q E s := wpAny_Name (wpAny_loadName_local hk hx (hL ▸ F.ns) hv h) hd
theorem nameG_F {A : Around} {Q : Value → Shared → Prop} {x : Str} {pos : Pos} {v : Value} {c : Addr} {o : Obj} (N : autoParam (News h₀ L s.heap news) Mine.aT5) (hc : autoParam (env.cells.lookup x = some c) Mine.aT9) (hm : autoParam ((c, o) ∈ news) Mine.aT8) (hd : autoParam (o.data = .cell (some v)) Mine.aT0) (h : Q v s)
    (hk : autoParam (env.scope.kind = .function) Mine.aT9) (hx : autoParam (env.kindOf x = some .free) Mine.aT9) (hb : autoParam ((x == ("__debug__" : Str)) = false) Mine.aT10) (hn : autoParam ((x == ("__classdict__" : Str)) = false) Mine.aT10) :
    wpAny (model PW w) A (eval (.Name x pos) env) Q E s := wpAny_Name (wpAny_loadName_free hk hx hc ⟨o, N.get hm, hd⟩ h hn) hb

noncomputable def choiceOf (C : Addr) : Nat := BX.idxOf C % 3
noncomputable def splitOf (C : Addr) : Nat := BX.idxOf C / 3
noncomputable def fitAddr : Nat → Addr
  | 0 => 445
  | 1 => 426
  | _ => 407
noncomputable def fitV (k : Nat) (W H w h : Int) : Option Int :=
  match k with
  | 0 => fitBssf W H w h
  | 1 => fitBlsf W H w h
  | _ => fitBaf W H w h
theorem bx_mfit {C : Addr} (hC : C ∈ BX) : findIn (Mine.K w.params) (.ref C) (Str.ofString "_section_fitness") = some (some (.ref (fitAddr (choiceOf C)))) := by
  have z := bx_all (P := fun C => match findIn (Mine.K w.params) (.ref C) (Str.ofString "_section_fitness") with | some (some (.ref g)) => Nat.beq g (fitAddr (choiceOf C)) | _ => false) (by kernel_rfl) hC
  split at z
  · rename_i g e
    rw [e, Nat.eq_of_beq_eq_true z]
  · cases z
theorem fit_isFn (k : Nat) : isFn (Mine.K w.params) (.ref (fitAddr k)) = true := by
  match k with
  | 0 => kernel_rfl
  | 1 => kernel_rfl
  | _ + 2 => kernel_rfl
theorem fit_keep (k : Nat) : keepIn (Mine.K w.params) (.ref (fitAddr k)) = true := by
  match k with
  | 0 => kernel_rfl
  | 1 => kernel_rfl
  | _ + 2 => kernel_rfl
theorem fit_any {k : Nat} {Q : Value → Shared → Prop} {box : Value} {sec dx : Addr} {x y r : Value} {Wi Hi wi hi : Int} {t1 t2 t3 t4 : Tok} {hs ks} (C : Cx 3 w dp un env outer A₀ base h₀ L m p loose mean mg mb s.heap) (N : News h₀ L s.heap news)
    (hb1 : 0 ≤ Wi) (hb2 : Wi < bigI) (hb3 : 0 ≤ Hi) (hb4 : Hi < bigI) (hb5 : 0 < wi) (hb6 : 0 < hi)
    (h1 : (sec, instObj 203 dx) ∈ news) (h2 : (dx, dictOf (secDict (.int Wi t1) (.int Hi t2) x y r hs ks) 5) ∈ news)
    (ret : ∀ t h' tk', Fr h₀ L h' m → News h₀ L h' news → Q (optV (fitV k Wi Hi wi hi) t) { s with heap := h', toks := tk' }) :
    wpAny (model PW w) (AR dp un gd env outer) (call (.ref (fitAddr k)) [box, .ref sec, .int wi t3, .int hi t4]) Q E s := by
  match k with
  | 0 => exact fit_bssf (W := .none) (H := .none) C N h1 h2 ret
  | 1 => exact fit_blsf (W := .none) (H := .none) C N h1 h2 ret
  | _ + 2 => exact fit_baf (W := .none) (H := .none) C N hb1 hb2 hb3 hb4 hb5 hb6 h1 h2 ret
end
end Mine
namespace Mine
section
variable {w : World} {dp un : Nat} {gd : Option (List Code)} {env : Env} {outer : List Env} {A₀ : Around} {base h₀ : Heap} {L : Addr} {m : Str → Option Value} {p : Program} {loose : List Str} {mean : ExcName → Option Value} {mg mb : Str → Option Value} {news : List (Addr × Obj)} {s : Shared} {Q E : Value → Shared → Prop}
theorem GenBody.mono {genv : Env} {cond elt : Expr} {C : Addr} {fz fz' : List (Addr × Obj)} {vs : List Value} {qs : List Q4} {fit : Q4 → Option Int} {flag : Bool} (G : GenBody w genv outer cond elt C p loose mean mg mb fz vs qs fit flag) (h : ∀ p ∈ fz, p ∈ fz') :
    GenBody w genv outer cond elt C p loose mean mg mb fz' vs qs fit flag := ⟨fun j v q h1 h2 h3 h4 h5 => G.cond j v q h1 h2 h3 h4 fun p hp => h5 p (h p hp), fun j v q n h1 h2 h3 h4 h5 h6 => G.elt j v q n h1 h2 h3 h4 h5 fun p hp => h6 p (h p hp)⟩

theorem list_gen {genv : Env} {cond elt iter : Expr} {px : Pos} {scope : Scope} {pos : Pos} {I l C a : Addr} {oI oC oa : Obj} {gn ns : Nat} {fz : List (Addr × Obj)} {vs : List Value} {qs : List Q4} {fit : Q4 → Option Int} {flag : Bool} {mC : Str → Option Value}
    (G : GenBody w genv (env :: outer) cond elt C p loose mean mg mb fz vs qs fit flag) (hlen : vs.length = qs.length) (hC : genv.locals = C) (hx : genv.kindOf "s" = some .local) (hk : genv.scope.kind = .function) (hco : genv.scope.isCoroutine = false) (hfr : genv.frame = some C)
    (B : Below A₀ base outer h₀) (F : Fr h₀ L s.heap m) (X : (Mine.K w.params).In h₀) (T : Top p loose mean mg mb h₀) (hf : env.frame = some L) (hke : env.scope.kind = .function) (hd : dp + 6 < recursionLimit) (hu : un + 130 < cLine) (hl : (l, listOf vs.toArray ns) ∈ fz)
    (hsz : qs.length ≤ 1000) (N : News h₀ L s.heap ((a, oa) :: (C, oC) :: (I, oI) :: fz)) (hI : IterO oI l 0) (hC0 : NsO oC mC) (hg : GenO oa gn) (hfz : ∀ p ∈ fz, p.1 ≠ I ∧ p.1 ≠ C) (hLC : L < C) (hIC : I < C) (hCa : C < a)
    (hgs : s.gens[gn]? = some (.fresh (.compStart (.GeneratorExp elt [⟨.Name "s" px, iter, [cond], 0⟩] scope pos) 0 (.ref I) .none genv))) (hab : AllBare s.gens)
    (ret : ∀ S acc c tups h' tk' gs' d', Fr h₀ L h' m → News h₀ L h' ((S, lstO acc c) :: (tups ++ fz)) → (∀ p ∈ tups, @LT.lt Nat _ S p.1) → (∀ p ∈ fz, @LT.lt Nat _ p.1 S) → CandsIn tups vs flag acc (candsTo fit qs qs.length) → AllBare gs' →
      (∀ k, k ≠ gn → gs'[k]? = s.gens[k]?) → @LT.lt Nat _ L S → Q (.ref S) { s with heap := h', gens := gs', drawn := d', toks := tk' }) :
    wpAny (model PW w) (AR dp un gd env outer) (call (.type "list") [.ref a]) Q E s := by
  have lt : ∀ q ∈ (a, oa) :: (C, oC) :: (I, oI) :: fz, q.1 < s.heap.objs.size := fun q hq => Heap.lt_size (N q hq).1
  have hLs : L < s.heap.objs.size := F.ns.lt
  have fresh : ∀ b, L < b → h₀.get? b = none := fun b hb => Heap.get?_none_of_le (Nat.le_trans F.above (Nat.le_of_lt hb))
  refine feed_list (r := qs.length - 0) (gen_feeds (m := m) (iter := iter) (px := px) (scope := scope) (pos := pos) (gn := gn) (S := s.heap.objs.size) (gens₀ := s.gens) (os₀ := s.os) G hlen hC hx hk hco hfr B X T hf hke hd hu hl hsz (fun p hp => ⟨(hfz p hp).1, (hfz p hp).2, lt p (.tail _ (.tail _ (.tail _ hp)))⟩) hLC hIC hCa (lt _ (.head _))) ?_ ?_
  · refine ⟨0, oI, oC, oa, [], _, _, _, mC, rfl, Nat.zero_le _, F.push _, fun q hq => ?_, hI, hC0, hg, (fun p hp => nomatch hp), trivial, hgs, .inl ⟨rfl, rfl⟩, goOn_start, hab, rfl, fun _ _ => rfl⟩
    rcases List.mem_cons.mp hq with rfl | hq
    · exact ⟨Heap.get?_push_size _ rfl, Nat.ne_of_gt hLs, fresh _ hLs⟩
    have : q ∈ (a, oa) :: (C, oC) :: (I, oI) :: fz := by
      rcases List.mem_cons.mp hq with rfl | hq
      · exact .tail _ (.tail _ (.head _))
      rcases List.mem_cons.mp hq with rfl | hq
      · exact .tail _ (.head _)
      rcases List.mem_cons.mp hq with rfl | hq
      · exact .head _
      · exact .tail _ (.tail _ (.tail _ hq))
    exact ⟨Heap.get?_push_of_some _ (N q this).1, (N q this).2⟩
  · rintro acc c s' ⟨tups, F', N', ht, hc, hb, ho, hk'⟩
    obtain ⟨h', gs', d', tk', os'⟩ := s'
    have ho : os' = s.os := ho
    subst ho
    exact ret _ acc c tups h' tk' gs' d' F' N' ht (fun p hp => lt p (.tail _ (.tail _ (.tail _ hp)))) hc hb hk' hLs
end
end Mine
namespace Mine
section
variable {w : World} {dp un : Nat} {gd : Option (List Code)} {env : Env} {outer : List Env} {A₀ : Around} {base h₀ : Heap} {L : Addr} {m : Str → Option Value} {p : Program} {loose : List Str} {mean : ExcName → Option Value} {mg mb : Str → Option Value} {news : List (Addr × Obj)} {s : Shared} {Q E : Value → Shared → Prop}
theorem SecsIn.get {led : List (Addr × Obj)} : ∀ {vs : List Value} {qs : List Q4} {j : Nat} {v : Value} {q : Q4}, SecsIn led vs qs → vs[j]? = some v → qs[j]? = some q → SecAt led v q
  | v :: vs, q :: qs, 0, _, _, h, e1, e2 => by
    rw [List.getElem?_cons_zero] at e1 e2
    cases e1; cases e2; exact h.1
  | v :: vs, q :: qs, j + 1, _, _, h, e1, e2 => by
    rw [List.getElem?_cons_succ] at e1 e2
    exact SecsIn.get h.2 e1 e2
  | [], [], j, _, _, _, e1, _ => by simp at e1
  | [], _ :: _, _, _, _, h, _, _ => h.elim
  | _ :: _, [], _, _, _, h, _, _ => h.elim
theorem fit_two {k : Nat} {Q : Value → Shared → Prop} {box : Value} {sec dx : Addr} {x y r : Value} {Wi Hi wi hi : Int} {t1 t2 t3 t4 : Tok} {hs ks} (C : autoParam (Cx 3 w dp un env outer A₀ base h₀ L m p loose mean mg mb s.heap) Mine.aT4) (N : autoParam (News h₀ L s.heap news) Mine.aT5)
    (hb1 : autoParam (0 ≤ Wi) Mine.aT2) (hb2 : autoParam (Wi < bigI) Mine.aT2) (hb3 : autoParam (0 ≤ Hi) Mine.aT2) (hb4 : autoParam (Hi < bigI) Mine.aT2) (hb5 : autoParam (0 < wi) Mine.aT2) (hb6 : autoParam (0 < hi) Mine.aT2)
    (h1 : autoParam ((sec, instObj 203 dx) ∈ news) Mine.aT8) (h2 : autoParam ((dx, dictOf (secDict (.int Wi t1) (.int Hi t2) x y r hs ks) 5) ∈ news) Mine.aT8)
    (retN : fitV k Wi Hi wi hi = none → ∀ h' tk', Fr h₀ L h' m → News h₀ L h' news → Q .none { s with heap := h', toks := tk' })
    (retS : ∀ n, fitV k Wi Hi wi hi = some n → ∀ t h' tk', Fr h₀ L h' m → News h₀ L h' news → Q (.int n t) { s with heap := h', toks := tk' }) :
    wpAny (model PW w) (AR dp un gd env outer) (call (.ref (fitAddr k)) [box, .ref sec, .int wi t3, .int hi t4]) Q E s :=
  fit_any C N hb1 hb2 hb3 hb4 hb5 hb6 h1 h2 fun t h' tk' F' N' => by
    cases e : fitV k Wi Hi wi hi with
    | none => exact retN e _ _ F' N'
    | some n => exact retS n e t _ _ F' N'
end
end Mine
namespace Mine
theorem gens_1 {gens : Array GenState} {x y : GenState} : ((gens.push x).push y)[gens.size]? = some x := by
  rw [Array.getElem?_push_lt (by simp)]; simp
theorem gens_2 {gens : Array GenState} {x y : GenState} : ((gens.push x).push y)[(gens.push x).size]? = some y := by rw [Array.getElem?_push, if_pos rfl]
theorem allBare_2 {gens : Array GenState} {x y : GenState} (h : AllBare gens) (hx : x.bare = true) (hy : y.bare = true) : AllBare ((gens.push x).push y) := (h.push hx).push hy
end Mine
namespace Mine
theorem boolRet {Q : Bool → Shared → Prop} {b b' : Bool} {s : Shared} (e : b = b') (h : Q b s) : Q b' s := e ▸ h
section
variable {w : World} {dp un : Nat} {gd : Option (List Code)} {env : Env} {outer : List Env} {A₀ : Around} {base h₀ : Heap} {L : Addr} {m : Str → Option Value} {p : Program} {loose : List Str} {mean : ExcName → Option Value} {mg mb : Str → Option Value} {news : List (Addr × Obj)} {s : Shared} {Q E : Value → Shared → Prop}
/-- a generator that was made and not yet woken -/
structure GenReady (w : World) (outer : List Env) (p : Program) (loose : List Str) (mean : ExcName → Option Value) (mg mb : Str → Option Value) (I C : Addr) (gn : Nat) (fz : List (Addr × Obj)) (vs : List Value) (qs : List Q4) (fit : Q4 → Option Int) (flag : Bool) (gens : Array GenState) : Prop where
  go : ∃ genv cond elt iter px scope pos, GenBody w genv outer cond elt C p loose mean mg mb fz vs qs fit flag ∧ genv.locals = C ∧ genv.kindOf "s" = some .local ∧ genv.scope.kind = .function ∧ genv.scope.isCoroutine = false ∧ genv.frame = some C ∧
    gens[gn]? = some (.fresh (.compStart (.GeneratorExp elt [⟨.Name "s" px, iter, [cond], 0⟩] scope pos) 0 (.ref I) .none genv))
theorem GenReady.moved {p : Program} {loose : List Str} {mean : ExcName → Option Value} {mg mb : Str → Option Value} {I C : Addr} {gn : Nat} {fz : List (Addr × Obj)} {vs : List Value} {qs : List Q4} {fit : Q4 → Option Int} {flag : Bool} {gens gens' : Array GenState}
    (x : GenReady w outer p loose mean mg mb I C gn fz vs qs fit flag gens) (h : gens'[gn]? = gens[gn]?) : GenReady w outer p loose mean mg mb I C gn fz vs qs fit flag gens' := by
  obtain ⟨a, b, c, d, e, f, g, h1, h2, h3, h4, h5, h6, h7⟩ := x.go
  exact ⟨a, b, c, d, e, f, g, h1, h2, h3, h4, h5, h6, h.trans h7⟩

theorem genexp_full {A : Around} {Q : Value → Shared → Prop} {elt iter cond : Expr} {px : Pos} {scope : Scope} {pos : Pos} {cl : List (Str × Addr)} {c P l : Addr} {ns : Nat} {ps : Array Value} {vs : List Value} {gU : Obj → List (Addr × Obj)} {fz : List (Addr × Obj)} {qs : List Q4} {fit : Q4 → Option Int} {flag : Bool}
    (F : Fr h₀ L s.heap m) (N : News h₀ L s.heap news) (T : Top p loose mean mg mb h₀) (Cd : CodeHd h₀ c P) (hcd : env.code = .ref c) (U : UpdF P (tabObj ps) news gU) (ht : TriplesOk ps.toList) (hgl : env.globals = mainGlobals) (hl : (l, listOf vs.toArray ns) ∈ news) (hroom : A.depth < recursionLimit)
    (hclos : closureFor scope env = pure cl) (hco : scope.isCoroutine = false) (hcell : ∀ y ∈ scope.names, y.2 ≠ .cell) (h0 : scope.names.lookup (".0" : Str) = some NameKind.local) (hkind : scope.kind = .function) (hs : ∀ x, genFold iter env x = pure x) (hab : AllBare s.gens)
    (hx : ∀ C code, (genEnv scope cl C code builtinsNs env).kindOf "s" = some .local)
    (hit : wpAny (model PW w) A (eval iter env) (fun xv s₁ => ∃ h1 tk1, s₁ = { s with heap := h1, toks := tk1 } ∧ xv = .ref l ∧ Fr h₀ L h1 m ∧ News h₀ L h1 news) E s)
    (hG : ∀ C code, GenBody w (genEnv scope cl C code builtinsNs env) (env :: outer) cond elt C p loose mean mg mb fz vs qs fit flag)
    (ret : ∀ I oI C oC a oa ps' h' tk' gs', Fr h₀ L h' m → News h₀ L h' ((a, oa) :: (C, oC) :: (I, oI) :: gU (tabObj ps')) → IterO oI l 0 → NsO oC (fun y => if y = ".0" then some (.ref I) else none) → GenO oa s.gens.size →
      (∀ p ∈ news, @LT.lt Nat _ p.1 I) → @LT.lt Nat _ L I → @LT.lt Nat _ I C → @LT.lt Nat _ C a → TabStep pos ps ps' → AllBare gs' → gs'.size = s.gens.size + 1 → (∀ k, k < s.gens.size → gs'[k]? = s.gens[k]?) → GenReady w (env :: outer) p loose mean mg mb I C s.gens.size fz vs qs fit flag gs' →
      Q (.ref a) { s with gens := gs', heap := h', toks := tk' }) :
    wpAny (model PW w) A (eval (.GeneratorExp elt [⟨.Name "s" px, iter, [cond], 0⟩] scope pos) env) Q E s :=
  genexp_mk F N T Cd hcd U ht hgl hl hroom hclos hco hcell h0 hkind hs hit fun I oI C oC a oa code ps' h' tk' F' N' h1 h2 h3 h4 h5 h6 h7 h8 =>
    ret I oI C oC a oa ps' h' tk' _ F' N' h1 h2 h3 h4 h5 h6 h7 h8 (hab.push rfl) (Array.size_push ..) (fun k hk => by rw [Array.getElem?_push, if_neg (Nat.ne_of_lt hk)])
      ⟨⟨_, _, _, _, _, _, _, hG C code, rfl, hx C code, hkind, hco, rfl, by rw [Array.getElem?_push, if_pos rfl]⟩⟩

theorem list_ready {I l C a : Addr} {oI oC oa : Obj} {gn ns : Nat} {fzG fz : List (Addr × Obj)} {vs : List Value} {qs : List Q4} {fit : Q4 → Option Int} {flag : Bool} {mC : Str → Option Value}
    (G : GenReady w (env :: outer) p loose mean mg mb I C gn fzG vs qs fit flag s.gens) (hsub : ∀ p ∈ fzG, p ∈ fz) (hlen : vs.length = qs.length)
    (B : Below A₀ base outer h₀) (F : Fr h₀ L s.heap m) (X : (Mine.K w.params).In h₀) (T : Top p loose mean mg mb h₀) (hf : env.frame = some L) (hke : env.scope.kind = .function) (hd : dp + 6 < recursionLimit) (hu : un + 130 < cLine) (hl : (l, listOf vs.toArray ns) ∈ fz)
    (hsz : qs.length ≤ 1000) (N : News h₀ L s.heap ((a, oa) :: (C, oC) :: (I, oI) :: fz)) (hI : IterO oI l 0) (hC0 : NsO oC mC) (hg : GenO oa gn) (hfz : ∀ p ∈ fz, p.1 ≠ I ∧ p.1 ≠ C) (hLC : L < C) (hIC : I < C) (hCa : C < a) (hab : AllBare s.gens)
    (ret : ∀ S acc c tups h' tk' gs' d', Fr h₀ L h' m → News h₀ L h' ((S, lstO acc c) :: (tups ++ fz)) → (∀ p ∈ tups, @LT.lt Nat _ S p.1) → (∀ p ∈ fz, @LT.lt Nat _ p.1 S) → CandsIn tups vs flag acc (candsTo fit qs qs.length) → AllBare gs' →
      (∀ k, k ≠ gn → gs'[k]? = s.gens[k]?) → @LT.lt Nat _ L S → Q (.ref S) { s with heap := h', gens := gs', drawn := d', toks := tk' }) :
    wpAny (model PW w) (AR dp un gd env outer) (call (.type "list") [.ref a]) Q E s := by
  obtain ⟨genv, cond, elt, iter, px, scope, pos, h1, h2, h3, h4, h5, h6, h7⟩ := G.go
  exact list_gen (h1.mono hsub) hlen h2 h3 h4 h5 h6 B F X T hf hke hd hu hl hsz N hI hC0 hg hfz hLC hIC hCa h7 hab ret
end
end Mine
local macro_rules | `(tactic| k_is) => `(tactic| with_reducible exact Mine.fit_keep _)
local macro_rules | `(tactic| k_is) => `(tactic| with_reducible exact Mine.fit_isFn _)
local macro_rules | `(tactic| k_is) => `(tactic| with_reducible exact Mine.bx_mfit (by assumption))
local macro_rules | `(tactic| walk_at "eval Name") => Mine.sName "Mine.nameG_F"
local macro_rules | `(tactic| walk_at "eval Name") => Mine.sName "Mine.nameG_L"
local macro_rules | `(tactic| walk_at "call ref") => `(tactic| (k_here; k_dflt (refine' Mine.fit_two ?C ?N ?b1 ?b2 ?b3 ?b4 ?b5 ?b6 ?h1 ?h2 ?_ ?_; (case C => ktr_rel); (case N => k_asm); (case h1 | h2 => k_mem); (case b1 | b2 | b3 | b4 | b5 | b6 => omega); k_whole)))
namespace Mine
section
variable {prog : Program} {w : World} {A : Around} {E : Value → Shared → Prop} {s : Shared}
theorem min_empty {Q : Value → Shared → Prop} {q l : Addr} (hh : A.handled = none) (hl : s.heap.IsList l #[]) (hE : ∀ h' tk e, Heap.NewExc s.heap h' e "ValueError" → E (.ref e) { s with heap := h', toks := tk }) :
    wpAny (model prog w) A (call (.builtin "min") [.ref l] [(Str.ofString "key", .ref q)]) Q E s := by
  have hname : (toString "min" ++ toString ".loop" : String) = "min.loop" := by decide
  obtain ⟨ol, hol, _⟩ := id hl
  have hll : l < s.heap.objs.size := Heap.lt_size hol
  refine kmk_tree PySem.F.kind_min PySem.F.plain_min PySem.F.entry_min (kmk_min_key _ _) ?_
  show wpAny _ A.in1 (Builtin.Builtins.bindParams "min" ["key", "default"] 0 ⟨[], [(Str.ofString "key", .ref q)]⟩ >>= _) _ _ s
  refine wpAny_bind (wpAny_of_eq (show Builtin.Builtins.bindParams "min" ["key", "default"] 0 ⟨[], [(Str.ofString "key", .ref q)]⟩ = pure [some (.ref q), none] from rfl) ?_)
  refine wpAny_bind (wpAny_pure ?_)
  refine wpAny_bind (wpAny_pyIter_list hl ?_)
  refine wpAny_bind (wpAny_newList ?_ (Nat.zero_le _))
  rw [hname]
  have hS : (s.heap.push { cls := .type "list_iterator", data := .fields #[.ref l, .int 0 0] }).objs.size = s.heap.objs.size + 1 := Heap.size_push ..
  have hlI : l ≠ s.heap.objs.size := Nat.ne_of_lt hll
  refine wpAny_pure ⟨plainId_quiet PySem.F.plain_min_loop _, ?_⟩
  have gI : ((s.heap.push { cls := .type "list_iterator", data := .fields #[.ref l, .int 0 0] }).push (seqObj "list" #[] 0)).get? s.heap.objs.size = some { cls := .type "list_iterator", data := .fields #[.ref l, .int 0 0] } :=
    Heap.get?_push_of_some _ (Heap.get?_push_size _ rfl)
  have gS : ((s.heap.push { cls := .type "list_iterator", data := .fields #[.ref l, .int 0 0] }).push (seqObj "list" #[] 0)).get? (s.heap.push { cls := .type "list_iterator", data := .fields #[.ref l, .int 0 0] }).objs.size = some (seqObj "list" #[] 0) := Heap.get?_push_size _ rfl
  refine codeAny_builtin PySem.F.entry_min_loop ?_
  rw [Around.under_plainId PySem.F.plain_min_loop _]
  show wpAny _ A.in1 (seqItems? (.ref _) >>= _) _ _ _
  refine wpAny_bind (wpAny_seqItems gS rfl ?_)
  show wpAny _ A.in1 (tryCatch (pyNext (.ref s.heap.objs.size)) _ >>= _) _ _ _
  have hl2 : ((s.heap.push { cls := .type "list_iterator", data := .fields #[.ref l, .int 0 0] }).push (seqObj "list" #[] 0)).IsList l #[] := by
    obtain ⟨o, e, r⟩ := hl
    exact ⟨o, Heap.get?_push_of_some _ (Heap.get?_push_of_some _ e), r⟩
  refine wpAny_bind (wpAny_tryCatch (wpAny_pyNext_list_end hh (i := 0) ⟨_, gI, rfl, rfl⟩ hl2 rfl fun h' he => ?_))
  show wpAny _ A.in1 (rule _ >>= _) _ _ _
  refine wpAny_bind (wpAny_rule (wpAny_raiseErrorMade plainExc_ValueError hh fun h2 tk e hx => ?_))
  have kp : ∀ b o, s.heap.get? b = some o → h'.get? b = some o := fun b o e => he b o (Nat.ne_of_lt (Heap.lt_size e)) (Heap.get?_push_of_some _ (Heap.get?_push_of_some _ e))
  refine hE h2 tk e ⟨fun b o e => hx.keeps b o (kp b o e), ?_, hx.there⟩
  cases hq : s.heap.get? e with
  | none => rfl
  | some o =>
    have z := kp _ _ hq
    rw [hx.new] at z; cases z

/-- the first note of a new exception in the frame where a built-in raised it -/
theorem note_first {base : Heap} {env : Env} {outer : List Env} {L e : Addr} {oe : Obj} {vs : Array Value} {a0 : Value} {Q : Unit → Shared → Prop}
    (hfr : A.frames = some (env :: outer)) (hl : s.heap.FunFrames base (env :: outer)) (hf : env.frame = some L)
    (he : s.heap.get? e = some oe) (hkb : base.StaysIn s.heap) (hen : base.get? e = none) (hd : oe.data = .fields vs) (h1 : vs[1]? = some .none) (h0 : vs[0]? = some a0)
    (h : ∀ h', Heap.NotedW base (env :: outer) e oe.cls a0 (rawInt L) s.heap h' → Q () { s with heap := h' }) : wpAny (model prog w) A (noteFrame (.ref e) env) Q E s := by
  unfold noteFrame
  simp only [hf]
  refine wpAny_bind (wpAny_field he hd h1 ?_)
  rw [if_neg (by decide)]
  exact wpAny_entryW hfr hl hf he hkb hen hd (Array.getElem?_eq_some_iff.mp h1).1 h0 h
end
section
variable {w : World} {dp un : Nat} {gd : Option (List Code)} {env : Env} {outer : List Env} {A₀ : Around} {base h₀ : Heap} {L : Addr} {m : Str → Option Value} {p : Program} {loose : List Str} {mean : ExcName → Option Value} {mg mb : Str → Option Value} {news : List (Addr × Obj)} {s : Shared} {Q E : Value → Shared → Prop}
theorem mem_frames {env : Env} {outer : List Env} {L b : Addr} (hf : env.frame = some L) (hm : b ∈ (env :: outer).filterMap (·.frame)) : b = L ∨ b ∈ outer.filterMap (·.frame) := by
  rw [List.filterMap_cons, hf] at hm
  rcases List.mem_cons.mp hm with rfl | hm
  · exact .inl rfl
  · exact .inr hm

/-- the ground below a frame, as it stands when the frames' slots have changed -/
theorem turnGround {env : Env} {A' : Around} {G Bh h₅ : Heap} (K : Below A' base outer h₀) (F : Fr h₀ L G m) (hf : env.frame = some L) (hBG : ∀ b o, G.get? b = some o → b ∉ (env :: outer).filterMap (·.frame) → Bh.get? b = some o) (hBh : Bh.StaysIn h₅) (hsm : G.UpToSlots h₅) :
    ∃ g', KtsTurn (outer.filterMap (·.frame)) h₀ g' ∧ Fr g' L h₅ m ∧ Below A' base outer g' := by
  obtain ⟨T, S⟩ := kts_turn_at (h := h₅) (fs := outer.filterMap (·.frame)) (g := h₀)
    (fun b hb => let ⟨_, o, ho, _⟩ := K.frames.mem hb; ⟨o, ho⟩)
    (fun b o e nm => hBh b o (hBG b o (F.keep b o e) (fun hm => by
      rcases mem_frames hf hm with z | z
      · rw [z, kts_self F] at e; cases e
      · exact nm z)))
    (fun b o e hm => by
      obtain ⟨_, o', ho', hd⟩ := K.frames.mem hm
      rw [e] at ho'; cases ho'
      exact hsm b o (F.keep b o e) hd)
  refine ⟨_, T, ⟨hsm.ns F.ns, S, by rw [T.size]; exact F.above⟩, ⟨K.stack, fun b o e => T.other b o (K.stays b o e) (fun hm => by rw [(K.frames.mem hm).1] at e; cases e), K.frames.of_keeps fun b o e _ => ?_⟩⟩
  obtain ⟨sl, hs⟩ := T.up e
  exact ⟨_, hs, rfl⟩

/-- a built-in's new exception, caught in the same frame by a clause that names its class -/
theorem caughtHere {env : Env} {A : Around} {G : Heap} {e : Addr} {X : String} {x : Str} {np pos : Pos} {b₀ : Stmt} {suite : List Stmt} {rest : List ExceptHandler} {Q : Flow → Shared → Prop} {A' : Around}
    (hA : A.frames = some (env :: outer)) (hf : env.frame = some L) (hk : env.scope.kind = .function) (K : Below A' base outer h₀) (F : Fr h₀ L G m) (N : News h₀ L G news) (hx : Heap.NewExc G s.heap e X)
    (XB : (Mine.K w.params).In base) (TB : Top p loose mean mg mb base) (hc : env.globals = mainGlobals)
    (hname : ∀ (g' : Heap) (s' : Shared) (Q' : Value → Shared → Prop) (E' : Value → Shared → Prop), Fr g' L s'.heap m → (Mine.K w.params).In g' → TopRead p loose mg mb g' → Q' (.type X) s' → wpAny (model PW w) (A.mark (some (.ref e))) (eval (.Name x np) env) Q' E' s')
    (hexc : isSubtype (.type X) (.type "BaseException") = pure true) (hnt : isSubtype (.type ((Manifest.find? X).elim "type" fun y => y.metatype)) (.type "tuple") = pure false) (hsub : isSubtype (.type X) (.type X) = pure true)
    (k : ∀ h' g', KtsTurn (outer.filterMap (·.frame)) h₀ g' → Fr g' L h' m → News g' L h' news → Below A' base outer g' → (Mine.K w.params).In g' → Top p loose mean mg mb g' →
      wpAny (model PW w) (A.mark (some (.ref e))) (execs (b₀ :: suite) env) Q (fun _ _ => False) { s with heap := h' }) :
    wpAny (model PW w) A (noteFrame (.ref e) env) (fun _ s₂ => wpAny (model PW w) A (setFlight (.ref e) none) (fun _ s₃ =>
        wpAny (model PW w) A (handleBy (.ref e) env (.ExceptHandler (some (.Name x np)) none (b₀ :: suite) pos :: rest)) Q E s₃) E s₂) E s := by
  have KP := belowPush (A' := A) K F hA hk hf
  obtain ⟨ob, t, he, hcls, hd⟩ := hx.there
  have hin : ∀ env' ∈ env :: outer, ∀ b, env'.frame = some b → b ∈ (env :: outer).filterMap (·.frame) := fun env' he' b hb => List.mem_filterMap.mpr ⟨env', he', hb⟩
  have hen : (hideAll G ((env :: outer).filterMap (·.frame))).get? e = none := by
    cases q : (hideAll G ((env :: outer).filterMap (·.frame))).get? e with
    | none => rfl
    | some o => have z := of_hideAll _ q; rw [hx.new] at z; cases z
  have hBG : ∀ b o, G.get? b = some o → b ∉ (env :: outer).filterMap (·.frame) → (hideAll G ((env :: outer).filterMap (·.frame))).get? b = some o := fun b o q nm => hideAll_get _ q nm
  have FF : s.heap.FunFrames (hideAll G ((env :: outer).filterMap (·.frame))) (env :: outer) := (funFrames_hide KP.frames hin).of_keeps fun b o q _ => ⟨o, hx.keeps b o q, rfl⟩
  refine note_first hA FF hf he (fun b o q => hx.keeps b o (of_hideAll _ q)) hen hd rfl rfl fun h₄ hN => ?_
  obtain ⟨k1, k2, k3, k4⟩ := hN
  refine wpAny_landsW (L := L) ⟨k1, hen, k2, k3⟩ fun h₅ hfl₅ hsm₅ => ?_
  have hsm : G.UpToSlots h₅ := ((Heap.UpToSlots.of_keeps hx.keeps).trans k4).trans hsm₅
  obtain ⟨g₅, T₅, F₅, K₅⟩ := turnGround K F hf hBG hfl₅.1 hsm
  obtain ⟨ob', hob', hobc'⟩ := hfl₅.there
  refine wpAny_handleBy_builtin (X := X) (T := X) (b := true) hexc hnt hsub (hname g₅ _ _ _ F₅ (XB.keeps K₅.stays) (topRead_of (TB.keeps K₅.stays)) ⟨rfl, ⟨ob', hob', hobc'.trans hcls⟩, ?_⟩)
  rw [if_pos rfl]
  refine lands_againW hfl₅ fun h₆ hfl₆ hsm₆ => ?_
  obtain ⟨g₆, T₆, F₆, K₆⟩ := turnGround K F hf hBG hfl₆.1 (hsm.trans hsm₆)
  have N₆ : News g₆ L h₆ news := fun q hq => by
    refine ⟨hfl₆.1 _ _ (hBG _ _ (N q hq).1 fun hm => ?_), (N q hq).2.1, T₆.none_ _ (N q hq).2.2⟩
    rcases mem_frames hf hm with z | z
    · exact (N q hq).2.1 z
    · obtain ⟨_, o, ho, _⟩ := K.frames.mem z
      rw [(N q hq).2.2] at ho; cases ho
  exact wpAny_mono (k h₆ g₆ T₆ F₆ N₆ K₆ (XB.keeps K₆.stays) (TB.keeps K₆.stays)) (fun _ _ z => z) fun _ _ z => z.elim
end
end Mine
namespace Mine
section
variable {prog : Program} {w : World} {A₀ A : Around} {s : Shared} {base h₀ : Heap} {outer : List Env} {L : Addr} {m : Str → Option Value} {news : List (Addr × Obj)} {K : Frag} {p : Program} {loose : List Str} {mean : ExcName → Option Value} {mg mb : Str → Option Value}
/-- a def entered, its end told as it is (the ground below may have turned) -/
theorem enterT {env : Env} {R : Result → Shared → Prop} {name qual : Str} {params : Arguments} {body : List Stmt} {scope : Scope} {dV kV doc pm cdv ct oc : Value} {an od : Option Addr} {osl : Array (Option Value)} {f : Addr} {args : Args} {binds : List (Str × Value)}
    (B : Below A₀ base outer h₀) (F : Fr h₀ L s.heap m) (X₀ : K.In h₀) (N : News h₀ L s.heap news) (T : Top p loose mean mg mb h₀) (hA : A.frames = some (env :: outer)) (hf : env.frame = some L) (hke : env.scope.kind = .function)
    (ho : K.lookup f = some ⟨oc, od, .func (fnOf name qual params body scope dV kV doc pm an cdv ct), osl⟩) (hcd : codeIn K cdv qual = true) (hroom : A.depth < recursionLimit)
    (hbind : BindsTo s (fnOf name qual params body scope dV kV doc pm an cdv ct) args binds) (hloc : ∀ y ∈ binds, scope.names.lookup y.1 = some .local)
    (h : ∀ g L' h₁, Fr h₀ L g m → Fr g L' h₁ (fun y => binds.reverse.lookup y) → News g L' h₁ news → Below A base (env :: outer) g → K.In g → Top p loose mean mg mb g →
      wpAny (model prog w) (A.deeper (envOf qual scope L' f cdv)) (execs body (envOf qual scope L' f cdv))
        (fun fl s' => R (.ok (.ret (match fl with | .ret v => v | _ => .none))) s')
        (fun e s' => wpAny (model prog w) (A.deeper (envOf qual scope L' f cdv)) (leaving (envOf qual scope L' f cdv) e) (fun _ s'' => R (.error e) s'') (fun e' s'' => R (.error e') s'') s')
        { s with heap := h₁, toks := s.toks + binds.length })
    (hco : scope.isCoroutine = false) (hgen : scope.isGenerator = false) (hk : scope.kind = .function)
    (hcell : ∀ x ∈ scope.names, x.2 ≠ .cell) : codeAny (model prog w) A (.call (.ref f) args) R s := by
  obtain ⟨FG, BG, st, _⟩ := groundX (R := R) B F N hA hf hke
  refine codeAny_call_def (fd := fnOf name qual params body scope dV kV doc pm an cdv ct) (body := body) (binds := binds) hroom ((X₀.keeps F.keep) _ _ ho) rfl ((T.nolimit).keeps F.keep) (codeRec_of (X₀.keeps F.keep) hcd) rfl hbind hcell hloc (fun h₁ hns hk₁ => ?_) hco hgen hk
  exact wpAny_mono (h _ s.heap.objs.size h₁ FG ⟨hns, fun b o e => hk₁ b o (of_hideAll _ e), Nat.le_of_eq (hideAll_size _ _)⟩
    (fun q hq => ⟨hk₁ _ _ (N q hq).1, Nat.ne_of_lt (Heap.lt_size (N q hq).1), hideAll_none _ (List.mem_map_of_mem hq)⟩) BG (X₀.keeps st) (T.keeps st)) (fun fl s' hl => hl) fun _ _ y => y

theorem enterTC {env : Env} {R : Result → Shared → Prop} {name qual : Str} {params : Arguments} {body : List Stmt} {scope : Scope} {dV kV doc pm cdv ct oc : Value} {an od : Option Addr} {osl : Array (Option Value)} {f : Addr} {args : Args} {binds : List (Str × Value)}
    (B : Below A₀ base outer h₀) (F : Fr h₀ L s.heap m) (X₀ : K.In h₀) (N : News h₀ L s.heap news) (T : Top p loose mean mg mb h₀) (hA : A.frames = some (env :: outer)) (hf : env.frame = some L) (hke : env.scope.kind = .function)
    (ho : K.lookup f = some ⟨oc, od, .func (fnOf name qual params body scope dV kV doc pm an cdv ct), osl⟩) (hcd : codeIn K cdv qual = true) (hroom : A.depth < recursionLimit)
    (hbind : BindsTo s (fnOf name qual params body scope dV kV doc pm an cdv ct) args binds) (hkind : (binds.all fun y => scope.names.lookup y.1 == some .local || scope.names.lookup y.1 == some .cell) = true)
    (hnd : ((cellsFrom 0 scope.names []).map (·.1)).Nodup)
    (h : ∀ g L' h₁ tk cells, Fr h₀ L g m → Fr g L' h₁ (bindL (envOfC qual scope L' f cdv).kindOf binds fun _ => none) → News g L' h₁ (cells ++ news) →
      CellsAre (bindC (envOfC qual scope L' f cdv).kindOf binds fun _ => none) (cellsFrom (L' + 1) scope.names []) cells → Below A base (env :: outer) g → K.In g → Top p loose mean mg mb g → (∀ p ∈ news, p.1 < L') →
      wpAny (model prog w) (A.deeper (envOfC qual scope L' f cdv)) (execs body (envOfC qual scope L' f cdv))
        (fun fl s' => R (.ok (.ret (match fl with | .ret v => v | _ => .none))) s')
        (fun e s' => wpAny (model prog w) (A.deeper (envOfC qual scope L' f cdv)) (leaving (envOfC qual scope L' f cdv) e) (fun _ s'' => R (.error e) s'') (fun e' s'' => R (.error e') s'') s')
        { s with heap := h₁, toks := tk })
    (hco : scope.isCoroutine = false) (hgen : scope.isGenerator = false) (hk : scope.kind = .function) : codeAny (model prog w) A (.call (.ref f) args) R s := by
  obtain ⟨FG, BG, st, _⟩ := groundX (R := R) B F N hA hf hke
  refine codeAny_call_function hroom ((X₀.keeps F.keep) _ _ ho) rfl hco hgen rfl (codeRec_of (X₀.keeps F.keep) hcd) (hbind _ _ _ _ ?_)
  refine wpAny_newFunctionEnv_cells hk (kindsX hkind _) fun env' he s' x => ?_
  subst he
  refine ⟨(T.nolimit.keeps F.keep).keeps x.toInCall.keep, codeAny_func ?_⟩
  obtain ⟨h₁, tk, rfl, _⟩ := x.done
  have hk₁ := x.toInCall.keep
  obtain ⟨cells, NC, Y⟩ := Cl.news (h₀ := s.heap) (Nat.le_refl _) fun n c hm => ⟨x.cell n c (lookup_of_mem_nodup (cellsFrom_names scope.names 0 (s.heap.objs.size + 1) [] [] rfl ▸ hnd) hm), x.above n c hm⟩
  refine wpAny_mono (h _ s.heap.objs.size h₁ tk cells FG ⟨x.toInCall.ns, fun b o e => hk₁ b o (of_hideAll _ e), Nat.le_of_eq (hideAll_size _ _)⟩ (fun q hq => ?_) Y BG (X₀.keeps st) (T.keeps st) (fun q hq => Heap.lt_size (N q hq).1)) (fun fl s' hl => hl) fun _ _ y => y
  rcases List.mem_append.mp hq with hq | hq
  · refine ⟨(NC q hq).1, (NC q hq).2.1, ?_⟩
    cases z : (hideAll s.heap (news.map (·.1))).get? q.1 with
    | none => rfl
    | some o => have := of_hideAll _ z; rw [(NC q hq).2.2] at this; cases this
  · exact ⟨hk₁ _ _ (N q hq).1, Nat.ne_of_lt (Heap.lt_size (N q hq).1), hideAll_none _ (List.mem_map_of_mem hq)⟩

/-- the way out of a def whose ground has turned -/
theorem leaveT {env : Env} {A' : Around} {g g' h' : Heap} {L' : Addr} {m' : Str → Option Value} {led : List (Addr × Obj)} (B : Below A' base outer h₀) (FG : Fr h₀ L g m) (hf : env.frame = some L) (T : KtsTurn ((env :: outer).filterMap (·.frame)) g g') (F' : Fr g' L' h' m') (N' : News g' L' h' led) :
    ∃ h₀', KtsTurn (outer.filterMap (·.frame)) h₀ h₀' ∧ Fr h₀' L h' m ∧ Below A' base outer h₀' ∧ News h₀' L h' led := by
  obtain ⟨h₀', T₀, F₀, B₀⟩ := turnGround (env := env) (Bh := hideAll g ((env :: outer).filterMap (·.frame))) (h₅ := h') B FG hf (fun b o e nm => hideAll_get _ e nm)
    (fun b o e => by
      by_cases hm : b ∈ (env :: outer).filterMap (·.frame)
      · rw [hideAll_none _ hm] at e; cases e
      · exact F'.keep b o (T.other b o (of_hideAll _ e) hm))
    (fun b o e _ => let ⟨sl, hs⟩ := T.up e; ⟨sl, F'.keep b _ hs⟩)
  have gn : ∀ b, g'.get? b = none → g.get? b = none := fun b e => by
    cases q : g.get? b with
    | none => rfl
    | some o =>
      obtain ⟨sl, hs⟩ := T.up q
      rw [e] at hs; cases hs
  refine ⟨h₀', T₀, F₀, B₀, fun q hq => ⟨(N' q hq).1, fun z => ?_, ?_⟩⟩
  · have e := gn _ (N' q hq).2.2
    obtain ⟨o, _, _, ho, _⟩ := FG.ns
    rw [z, ho] at e; cases e
  · exact T₀.none_ _ (kts_none FG.keep (gn _ (N' q hq).2.2))
end
end Mine
local macro_rules | `(tactic| kts_go) => Mine.sEnter2 "Mine.enterT" "Mine.enterTC"
namespace Mine
/-- a list's members, block by block, among those of another list of the same blocks -/
noncomputable def blks {α : Type} (e : List (List α)) (js : List Nat) (r : List α) : List α := js.foldr (fun j r => e.getD j [] ++ r) r
theorem blks_mem {α : Type} {e : List (List α)} {r : List α} : ∀ {i : Nat}, ∀ q ∈ e.getD i [], q ∈ e.foldr (· ++ ·) r := by
  induction e with
  | nil => exact fun q hq => nomatch hq
  | cons a e ih =>
    intro i q hq
    cases i with
    | zero => exact List.mem_append_left _ hq
    | succ i => exact List.mem_append_right a (ih q hq)
theorem perm_of {α : Type} (e : List (List α)) (js : List Nat) (r : List α) : ∀ q ∈ blks e js r, q ∈ e.foldr (· ++ ·) r := by
  induction js with
  | nil =>
    intro q hq
    induction e with
    | nil => exact hq
    | cons a e ih => exact List.mem_append_right a (ih hq)
  | cons j js ih => exact fun q hq => (List.mem_append.mp hq).elim (blks_mem q) (ih q)
/-- no text at the second place of a code table -/
theorem no_str {l : List Value} {x : Str} {t : Tok} (h : TriplesOk l) (e : l[1]? = some (.str x t)) : False := by
  cases l with
  | nil => cases e
  | cons a l =>
    cases l with
    | nil => cases e
    | cons b l =>
      obtain rfl : b = .str x t := Option.some.inj e
      cases a <;> exact h.elim
noncomputable def lamPos : Pos := { line := 204, col := 39, endLine := 204, endCol := 57 }
noncomputable abbrev lamQual : Str := (Str.ofString "Guillotine._select_fittest_section" ++ ".<locals>.") ++ "<lambda>"
/-- the table of _select_fittest_section's inner codes: either the lambda's code is not there yet, or it is one that the ledger bears -/
structure TabOk (ps : Array Value) (led : List (Addr × Obj)) : Prop where
  ok : TriplesOk ps.toList
  lam : codeAmong lamPos ps.toList = none ∨ ∃ c' oc vs t, codeAmong lamPos ps.toList = some (.ref c') ∧ (c', oc) ∈ led ∧ oc.data = .fields vs ∧ vs[1]? = some (.str lamQual t)
theorem TabOk.mono {ps : Array Value} {led led' : List (Addr × Obj)} (x : TabOk ps led) (h : ∀ p ∈ led, p ∈ led') : TabOk ps led' :=
  ⟨x.ok, x.lam.imp id fun ⟨c', oc, vs, t, a, b, c, d⟩ => ⟨c', oc, vs, t, a, h _ b, c, d⟩⟩
theorem TabOk.step {pos : Pos} {ps ps' : Array Value} {led : List (Addr × Obj)} (x : TabOk ps led) (s : TabStep pos ps ps') (hne : pos.line ≠ lamPos.line) : TabOk ps' led :=
  ⟨s.ok x.ok, by rw [s.other x.ok hne]; exact x.lam⟩
section
variable {w : World} {dp un : Nat} {gd : Option (List Code)} {env : Env} {outer : List Env} {A₀ : Around} {base h₀ : Heap} {L : Addr} {m : Str → Option Value} {p : Program} {loose : List Str} {mean : ExcName → Option Value} {mg mb : Str → Option Value} {news : List (Addr × Obj)} {s : Shared} {Q E : Value → Shared → Prop}
theorem lam_mk {A : Around} {Q : Value → Shared → Prop} {params : Arguments} {body : Expr} {scope : Scope} {clos : List (Str × Addr)} {c P a : Addr} {ps : Array Value} {gU : Obj → List (Addr × Obj)} {cs : Scope} {ccd : Value} {cl : List (Str × Addr)}
    (F : Fr h₀ L s.heap m) (N : News h₀ L s.heap news) (T : Top p loose mean mg mb h₀) (Cd : CodeHd h₀ c P) (hcd : ccd = .ref c) (U : UpdF P (tabObj ps) news gU) {led : List (Addr × Obj)} (hled : ∀ q ∈ led, q ∈ news) (hT : TabOk ps led)
    (hcl : closureFor scope (envX (Str.ofString "Guillotine._select_fittest_section") cs L a ccd cl) = pure clos) (hdef : defaultsOf params (envX (Str.ofString "Guillotine._select_fittest_section") cs L a ccd cl) = ([], []))
    (ret : ∀ f c' oc vs t ctv ps' h' tk' own, Fr h₀ L h' m → News h₀ L h' ((f, kla_obj "<lambda>" lamQual params body scope clos ((mg "__name__").getD .none) c' ctv) :: (own ++ gU (tabObj ps'))) → (c', oc) ∈ own ++ led → (∀ q ∈ own, ∀ p ∈ news, @LT.lt Nat _ p.1 q.1) → (∀ q ∈ own, @LT.lt Nat _ q.1 f) →
      oc.data = .fields vs → vs[1]? = some (.str lamQual t) → TriplesOk ps'.toList → codeAmong lamPos ps'.toList = some (.ref c') → (∀ q ∈ news, @LT.lt Nat _ q.1 f) → (∀ q ∈ news, q.1 ≠ P → q ∈ gU (tabObj ps')) → (c' ≠ P) → Q (.ref f) { s with heap := h', toks := tk' }) :
    wpAny (model PW w) A (eval (.Lambda params body scope lamPos) (envX (Str.ofString "Guillotine._select_fittest_section") cs L a ccd cl)) Q E s := by
  refine kla_eval hdef ?_
  obtain ⟨own₀, rest, hn, hgr, hu1, hu2⟩ := id U.split
  have hPm : (P, tabObj ps) ∈ news := by rw [hn]; exact List.mem_append_right _ (.head _)
  have hin : ∀ ps', ∀ q ∈ news, q.1 ≠ P → q ∈ gU (tabObj ps') := fun ps' q hq hne => by
    rw [hgr]
    rw [hn] at hq
    rcases List.mem_append.mp hq with hq | hq
    · exact List.mem_append_left _ hq
    rcases List.mem_cons.mp hq with rfl | hq
    · exact absurd rfl hne
    · exact List.mem_append_right _ (.tail _ hq)
  rcases hT.lam with hnf | ⟨c', oc, vs, t, hf, hm, hd, hv⟩
  · refine kla_nest F N T Cd hcd U hT.ok hnf hcl fun f c' oc vs t ctv h' tk F' N' hd hv h1 h2 => ?_
    refine ret f c' oc vs t ctv _ h' tk [(c', oc)] F' N' (.head _) (fun q hq => ?_) (fun q hq => ?_) hd hv (by rw [Array.toList_append]; exact TriplesOk_snoc _ _ _ _ hT.ok) (by rw [Array.toList_append]; exact codeAmong_snoc _ hT.ok hnf) (fun q hq => Nat.lt_trans (h1 q hq) h2) (hin _) (Nat.ne_of_gt (h1 _ hPm))
    · rw [List.mem_singleton.mp hq]; exact h1
    · rw [List.mem_singleton.mp hq]; exact h2
  · refine kla_hit F N T Cd hcd hPm hT.ok hf hcl fun f ctv h' tk F' N' h1 => ?_
    refine ret f c' oc vs t ctv ps h' tk [] F' ?_ hm (fun q hq => nomatch hq) (fun q hq => nomatch hq) hd hv hT.ok hf h1 (hin _) (fun z => ?_)
    · rw [List.nil_append, hgr, ← hn]; exact N'
    · have e1 := (N _ (hled _ hm)).1
      have e2 := (N _ hPm).1
      have z' : c' = P := z
      rw [z', e2] at e1
      have e3 : oc = tabObj ps := (Option.some.inj e1).symm
      rw [e3] at hd
      have e4 : ps = vs := by injection hd
      have e5 := hT.ok
      rw [e4] at e5
      exact no_str e5 (by rw [Array.getElem?_toList]; exact hv)
end
theorem perm9 {α : Type} {f d s2 s1 a b c l t : α} {own nw : List α} : ∀ q ∈ f :: d :: l :: t :: (own ++ nw), q ∈ f :: (own ++ (d :: s2 :: s1 :: a :: b :: c :: l :: t :: nw)) := perm_of [[f], own, [d], [s2], [s1], [a], [b], [c], [l], [t]] [0, 2, 8, 9, 1] nw
theorem perm4 {α : Type} {a c i x1 x2 x3 o1 o2 o3 l t : α} {nw : List α} : ∀ q ∈ a :: c :: i :: x1 :: x2 :: x3 :: o1 :: o2 :: o3 :: l :: t :: nw, q ∈ x1 :: x2 :: x3 :: a :: c :: i :: o1 :: o2 :: o3 :: l :: t :: nw := perm_of [[x1], [x2], [x3], [a], [c], [i], [o1], [o2], [o3], [l], [t]] [3, 4, 5, 0, 1, 2, 6, 7, 8, 9, 10] nw
theorem perm5 {α : Type} {s a c i o1 o2 o3 l t : α} {tp nw : List α} : ∀ q ∈ a :: c :: i :: s :: o1 :: o2 :: o3 :: l :: t :: (tp ++ nw), q ∈ s :: (tp ++ (a :: c :: i :: o1 :: o2 :: o3 :: l :: t :: nw)) := perm_of [[s], tp, [a], [c], [i], [o1], [o2], [o3], [l], [t]] [2, 3, 4, 0, 5, 6, 7, 8, 9, 1] nw
theorem perm6 {α : Type} {s s1 o1 o2 o3 l t : α} {tp nw : List α} : ∀ q ∈ s :: s1 :: o1 :: o2 :: o3 :: l :: t :: (tp ++ nw), q ∈ s :: (tp ++ (s1 :: o1 :: o2 :: o3 :: l :: t :: nw)) := perm_of [[s], tp, [s1], [o1], [o2], [o3], [l], [t]] [0, 2, 3, 4, 5, 6, 7, 1] nw
/-- both lists of candidates as one -/
noncomputable def both (cs1 cs2 : List (Int × Nat)) : List ((Int × Nat) × Bool) := cs1.map (fun c => (c, false)) ++ cs2.map (fun c => (c, true))
theorem CandsIn.get {led : List (Addr × Obj)} {vs : List Value} {flag : Bool} : ∀ {us : List Value} {cs : List (Int × Nat)} {i : Nat} {u : Value}, CandsIn led vs flag us cs → us[i]? = some u → ∃ c, cs[i]? = some c ∧ ∃ t tk v, u = .ref t ∧ vs[c.2]? = some v ∧ (t, tupO [.int c.1 tk, v, .bool flag]) ∈ led
  | [], [], i, u, _, e => by simp at e
  | x :: us, c :: cs, 0, u, h, e => by
    rw [List.getElem?_cons_zero] at e; cases e
    exact ⟨c, rfl, h.1⟩
  | x :: us, c :: cs, i + 1, u, h, e => by
    rw [List.getElem?_cons_succ] at e
    obtain ⟨c', h1, h2⟩ := CandsIn.get h.2 e
    exact ⟨c', by rw [List.getElem?_cons_succ]; exact h1, h2⟩
  | [], _ :: _, _, _, h, _ => h.elim
  | _ :: _, [], _, _, h, _ => h.elim
theorem both_get {led : List (Addr × Obj)} {vs us1 us2 : List Value} {cs1 cs2 : List (Int × Nat)} {i : Nat} {u : Value} (h1 : CandsIn led vs false us1 cs1) (h2 : CandsIn led vs true us2 cs2) (e : (us1 ++ us2)[i]? = some u) :
    ∃ c fl, (both cs1 cs2)[i]? = some (c, fl) ∧ ∃ t tk v, u = .ref t ∧ vs[c.2]? = some v ∧ (t, tupO [.int c.1 tk, v, .bool fl]) ∈ led := by
  have l1 := h1.length
  unfold both
  rcases Nat.lt_or_ge i us1.length with hi | hi
  · rw [List.getElem?_append_left hi] at e
    obtain ⟨c, hc, r⟩ := h1.get e
    exact ⟨c, false, by rw [List.getElem?_append_left (by rw [List.length_map]; omega), List.getElem?_map, hc]; rfl, r⟩
  · rw [List.getElem?_append_right hi] at e
    obtain ⟨c, hc, r⟩ := h2.get e
    exact ⟨c, true, by rw [List.getElem?_append_right (by rw [List.length_map]; omega), List.length_map, ← l1, List.getElem?_map, hc]; rfl, r⟩
noncomputable def keyAt (cc : List ((Int × Nat) × Bool)) (i : Nat) : Int := ((cc[i]?).map fun c => c.1.1).getD 0
theorem both_len {led : List (Addr × Obj)} {vs us1 us2 : List Value} {cs1 cs2 : List (Int × Nat)} (h1 : CandsIn led vs false us1 cs1) (h2 : CandsIn led vs true us2 cs2) : (us1 ++ us2).length = (both cs1 cs2).length := by
  unfold both
  rw [List.length_append, List.length_append, List.length_map, List.length_map, h1.length, h2.length]
end Mine
namespace Mine
theorem mem_candsTo {fit : Q4 → Option Int} {qs : List Q4} {i : Nat} {c : Int × Nat} : c ∈ candsTo fit qs i ↔ c.2 < i ∧ ∃ q, qs[c.2]? = some q ∧ fit q = some c.1 := by
  unfold candsTo
  rw [List.mem_filterMap]
  constructor
  · rintro ⟨j, hj, e⟩
    cases hq : qs[j]? with
    | none => rw [hq] at e; cases e
    | some q =>
      rw [hq, Option.bind_some] at e
      cases hf : fit q with
      | none => rw [hf] at e; cases e
      | some n =>
        rw [hf] at e
        cases e
        exact ⟨List.mem_range.mp hj, q, hq, hf⟩
  · rintro ⟨hi, q, hq, hf⟩
    exact ⟨c.2, List.mem_range.mpr hi, by rw [hq, Option.bind_some, hf]; rfl⟩

noncomputable def SelNone (k : Nat) (qs : List Q4) (wi hi : Int) (rotb : Bool) : Prop := ∀ q ∈ qs, fitV k q.2.2.1 q.2.2.2 wi hi = none ∧ (rotb = true → fitV k q.2.2.1 q.2.2.2 hi wi = none)
/-- section number j (turned or not) is one of the least value -/
structure SelOk (k : Nat) (qs : List Q4) (wi hi : Int) (rotb : Bool) (j : Nat) (n : Int) (fl : Bool) : Prop where
  turn : fl = true → rotb = true
  fits : ∃ q, qs[j]? = some q ∧ (if fl then fitV k q.2.2.1 q.2.2.2 hi wi else fitV k q.2.2.1 q.2.2.2 wi hi) = some n
  least : ∀ q ∈ qs, (∀ n', fitV k q.2.2.1 q.2.2.2 wi hi = some n' → n ≤ n') ∧ (rotb = true → ∀ n', fitV k q.2.2.1 q.2.2.2 hi wi = some n' → n ≤ n')

/-- the turned candidates of a box that turns or does not -/
noncomputable def turned (rotb : Bool) (fit : Q4 → Option Int) (qs : List Q4) : List (Int × Nat) := if rotb then candsTo fit qs qs.length else []

theorem sel_none {k : Nat} {qs : List Q4} {wi hi : Int} {rotb : Bool} (h : both (candsTo (fun q => fitV k q.2.2.1 q.2.2.2 wi hi) qs qs.length) (turned rotb (fun q => fitV k q.2.2.1 q.2.2.2 hi wi) qs) = []) : SelNone k qs wi hi rotb := by
  intro q hq
  obtain ⟨j, hj, e⟩ := List.mem_iff_getElem.mp hq
  have e' : qs[j]? = some q := by rw [List.getElem?_eq_getElem hj, e]
  unfold both at h
  obtain ⟨h1, h2⟩ := List.append_eq_nil_iff.mp h
  have g1 := List.map_eq_nil_iff.mp h1
  have g2 := List.map_eq_nil_iff.mp h2
  constructor
  · cases hf : fitV k q.2.2.1 q.2.2.2 wi hi with
    | none => rfl
    | some n =>
      have : (n, j) ∈ candsTo (fun q => fitV k q.2.2.1 q.2.2.2 wi hi) qs qs.length := mem_candsTo.mpr ⟨hj, q, e', hf⟩
      rw [g1] at this; cases this
  · intro hr
    subst hr
    cases hf : fitV k q.2.2.1 q.2.2.2 hi wi with
    | none => rfl
    | some n =>
      have : (n, j) ∈ candsTo (fun q => fitV k q.2.2.1 q.2.2.2 hi wi) qs qs.length := mem_candsTo.mpr ⟨hj, q, e', hf⟩
      unfold turned at g2
      rw [if_pos rfl] at g2
      rw [g2] at this; cases this

theorem sel_ok {k : Nat} {qs : List Q4} {wi hi : Int} {rotb : Bool} {i N : Nat} {c : Int × Nat} {fl : Bool} {cc : List ((Int × Nat) × Bool)}
    (hcc : both (candsTo (fun q => fitV k q.2.2.1 q.2.2.2 wi hi) qs qs.length) (turned rotb (fun q => fitV k q.2.2.1 q.2.2.2 hi wi) qs) = cc)
    (hc : cc[i]? = some (c, fl)) (hN : N = cc.length) (hmin : ∀ j, j < N → keyAt cc i ≤ keyAt cc j ∧ (j < i → keyAt cc i < keyAt cc j)) : SelOk k qs wi hi rotb c.2 c.1 fl := by
  have hk : keyAt cc i = c.1 := by unfold keyAt; rw [hc]; rfl
  have least : ∀ (c' : Int × Nat) (fl' : Bool), (c', fl') ∈ cc → c.1 ≤ c'.1 := fun c' fl' hm => by
    obtain ⟨j, hj, e⟩ := List.mem_iff_getElem.mp hm
    have z := (hmin j (hN ▸ hj)).1
    rw [hk] at z
    have : keyAt cc j = c'.1 := by unfold keyAt; rw [List.getElem?_eq_getElem hj, e]; rfl
    omega
  have hm : (c, fl) ∈ cc := List.mem_of_getElem? hc
  have sp : fl = false ∧ c ∈ candsTo (fun q => fitV k q.2.2.1 q.2.2.2 wi hi) qs qs.length ∨ fl = true ∧ c ∈ turned rotb (fun q => fitV k q.2.2.1 q.2.2.2 hi wi) qs := by
    rw [← hcc] at hm
    unfold both at hm
    rcases List.mem_append.mp hm with h | h
    · obtain ⟨c', h1, h2⟩ := List.mem_map.mp h
      cases h2; exact .inl ⟨rfl, h1⟩
    · obtain ⟨c', h1, h2⟩ := List.mem_map.mp h
      cases h2; exact .inr ⟨rfl, h1⟩
  refine ⟨fun hfl => ?_, ?_, fun q hq => ?_⟩
  · rcases sp with ⟨h1, _⟩ | ⟨_, h2⟩
    · rw [h1] at hfl; cases hfl
    · unfold turned at h2
      split at h2
      · assumption
      · cases h2
  · rcases sp with ⟨rfl, h⟩ | ⟨rfl, h⟩
    · obtain ⟨_, q, h1, h2⟩ := mem_candsTo.mp h
      exact ⟨q, h1, h2⟩
    · unfold turned at h
      split at h
      · obtain ⟨_, q, h1, h2⟩ := mem_candsTo.mp h
        exact ⟨q, h1, h2⟩
      · cases h
  · obtain ⟨j, hj, e⟩ := List.mem_iff_getElem.mp hq
    have e' : qs[j]? = some q := by rw [List.getElem?_eq_getElem hj, e]
    refine ⟨fun n' hf => least (n', j) false ?_, fun hr n' hf => least (n', j) true ?_⟩
    · rw [← hcc]; unfold both
      exact List.mem_append_left _ (List.mem_map.mpr ⟨_, mem_candsTo.mpr ⟨hj, q, e', hf⟩, rfl⟩)
    · rw [← hcc]; unfold both turned
      rw [if_pos hr]
      exact List.mem_append_right _ (List.mem_map.mpr ⟨_, mem_candsTo.mpr ⟨hj, q, e', hf⟩, rfl⟩)

theorem chg {x1 x2 x3 x4 : Addr × Obj} {P I : Addr} {o o' : Obj} {rest : List (Addr × Obj)} (h : ∀ p ∈ x1 :: x2 :: x3 :: x4 :: (P, o) :: rest, @LT.lt Nat _ p.1 I) : ∀ p ∈ x1 :: x2 :: x3 :: x4 :: (P, o') :: rest, @LT.lt Nat _ p.1 I := fun q hq => by
  rcases List.mem_cons.mp hq with rfl | hq
  · exact h _ (.head _)
  rcases List.mem_cons.mp hq with rfl | hq
  · exact h _ (.tail _ (.head _))
  rcases List.mem_cons.mp hq with rfl | hq
  · exact h _ (.tail _ (.tail _ (.head _)))
  rcases List.mem_cons.mp hq with rfl | hq
  · exact h _ (.tail _ (.tail _ (.tail _ (.head _))))
  rcases List.mem_cons.mp hq with rfl | hq
  · exact h (P, o) (.tail _ (.tail _ (.tail _ (.tail _ (.head _)))))
  · exact h _ (.tail _ (.tail _ (.tail _ (.tail _ (.tail _ hq)))))
theorem apart_ltK {I C : Addr} {rest : List (Addr × Obj)} (h : ∀ q ∈ rest, @LT.lt Nat _ q.1 I) (hIC : @LT.lt Nat _ I C) : ∀ q ∈ rest, q.1 ≠ I ∧ q.1 ≠ C := fun q hq => ⟨Nat.ne_of_lt (h q hq), Nat.ne_of_lt (Nat.lt_trans (h q hq) hIC)⟩
theorem apart_cons {I C : Addr} {x : Addr × Obj} {rest : List (Addr × Obj)} (h1 : @LT.lt Nat _ C x.1) (hIC : @LT.lt Nat _ I C) (h : ∀ q ∈ rest, q.1 ≠ I ∧ q.1 ≠ C) : ∀ q ∈ x :: rest, q.1 ≠ I ∧ q.1 ≠ C := fun q hq => by
  rcases List.mem_cons.mp hq with rfl | hq
  · exact ⟨Nat.ne_of_gt (Nat.lt_trans hIC h1), Nat.ne_of_gt h1⟩
  · exact h q hq
theorem apart_mid {I C : Addr} {x1 x2 x3 x4 x5 : Addr × Obj} {tp rest : List (Addr × Obj)} (h1 : ∀ q ∈ tp, @LT.lt Nat _ C q.1) (hIC : @LT.lt Nat _ I C) (h : ∀ q ∈ x1 :: x2 :: x3 :: x4 :: x5 :: rest, q.1 ≠ I ∧ q.1 ≠ C) : ∀ q ∈ x1 :: x2 :: x3 :: x4 :: x5 :: (tp ++ rest), q.1 ≠ I ∧ q.1 ≠ C := fun q hq => by
  simp only [List.mem_cons, List.mem_append] at hq
  by_cases hm : q ∈ tp
  · exact ⟨Nat.ne_of_gt (Nat.lt_trans hIC (h1 q hm)), Nat.ne_of_gt (h1 q hm)⟩
  · refine h q ?_
    simp only [List.mem_cons]
    grind
theorem subA {α : Type} {x1 x2 x3 o1 o2 o3 l t : α} {nw : List α} : ∀ q ∈ o1 :: o2 :: o3 :: nw, q ∈ x1 :: x2 :: x3 :: o1 :: o2 :: o3 :: l :: t :: nw := perm_of [[x1], [x2], [x3], [o1], [o2], [o3], [l], [t]] [3, 4, 5] nw
theorem subB {α : Type} {s o1 o2 o3 l t : α} {tp nw : List α} : ∀ q ∈ o1 :: o2 :: o3 :: nw, q ∈ s :: o1 :: o2 :: o3 :: l :: t :: (tp ++ nw) := perm_of [[s], [o1], [o2], [o3], [l], [t], tp] [1, 2, 3] nw
theorem subC {α : Type} {s o1 o2 o3 l t : α} {nw : List α} : ∀ q ∈ o1 :: o2 :: o3 :: nw, q ∈ s :: o1 :: o2 :: o3 :: l :: t :: nw := perm_of [[s], [o1], [o2], [o3], [l], [t]] [1, 2, 3] nw
theorem cand_back1 {α : Type} {a c i o1 o2 o3 l t : α} {tp nw : List α} : ∀ q ∈ tp ++ nw, q ∈ tp ++ (a :: c :: i :: o1 :: o2 :: o3 :: l :: t :: nw) := perm_of [tp, [a], [c], [i], [o1], [o2], [o3], [l], [t]] [0] nw
/-- what is new above a frame is no old object -/
theorem newNe {L₁ P : Addr} {own news : List (Addr × Obj)} (h1 : ∀ q ∈ own, @LT.lt Nat _ L₁ q.1) (hP : @LT.lt Nat _ P L₁) (h2 : ∀ q ∈ news, q.1 ≠ P) : ∀ q ∈ own ++ news, q.1 ≠ P := fun q hq => by
  rcases List.mem_append.mp hq with hq | hq
  · exact Nat.ne_of_gt (Nat.lt_trans hP (h1 q hq))
  · exact h2 q hq
end Mine
namespace Mine
theorem permZ {α : Type} {t f d l tb : α} {own news : List α} : ∀ q ∈ t :: l :: tb :: (own ++ news), q ∈ t :: f :: d :: l :: tb :: (own ++ news) := perm_of [[t], [f], [d], [l], [tb], own] [0, 3, 4, 5] news
theorem permY {α : Type} {x t f d l tb : α} {own news : List α} : ∀ q ∈ t :: l :: tb :: (own ++ news), q ∈ x :: t :: f :: d :: l :: tb :: (own ++ news) := perm_of [[x], [t], [f], [d], [l], [tb], own] [1, 4, 5, 6] news
end Mine
namespace Mine
theorem permF {α : Type} {e a2 c2 i2 a c i o1 o2 o3 l t : α} {nw : List α} : ∀ q ∈ a :: c :: i :: e :: o1 :: o2 :: o3 :: l :: t :: nw, q ∈ e :: a2 :: c2 :: i2 :: a :: c :: i :: o1 :: o2 :: o3 :: l :: t :: nw := perm_of [[e], [a2], [c2], [i2], [a], [c], [i], [o1], [o2], [o3], [l], [t]] [4, 5, 6, 0, 7, 8, 9, 10, 11] nw
end Mine
namespace Mine
theorem perm9F {α : Type} {f d s2 s1 e a b c l t : α} {own nw : List α} : ∀ q ∈ f :: d :: l :: t :: (own ++ nw), q ∈ f :: (own ++ (d :: s2 :: s1 :: e :: a :: b :: c :: l :: t :: nw)) := perm_of [[f], own, [d], [s2], [s1], [e], [a], [b], [c], [l], [t]] [0, 2, 9, 10, 1] nw
theorem listNe {h₀ h : Heap} {L S P : Addr} {led : List (Addr × Obj)} {xs ps : Array Value} {c : Nat} (N : News h₀ L h led) (h1 : (S, ({ cls := .type "list", data := .seq xs c } : Obj)) ∈ led) (h2 : (P, tabObj ps) ∈ led) : @Ne Nat S P := fun e => by
  have a := (N _ h1).1
  have b := (N _ h2).1
  have e' : S = P := e
  rw [e'] at a
  rw [a] at b
  cases b
end Mine
namespace Mine
structure HoldA (p : Prop) : Prop where
  get : p
theorem hold_min {M : Model} {A : Around} {E : Value → Shared → Prop} {s : Shared} {Q : Value → Shared → Prop} {vs : List Value} {kw : List (Str × Value)} (h : HoldA (wpAny M A (call (.builtin "min") vs kw) Q E s)) : wpAny M A (call (.builtin "min") vs kw) Q E s := h.get
local macro_rules | `(tactic| walk_at "call builtin:min") => Mine.sHold "Mine.hold_min"
theorem permU {α : Type} {s3 s2 s1 a b c l t : α} {nw : List α} : ∀ q ∈ s3 :: s1 :: l :: t :: nw, q ∈ s3 :: s2 :: s1 :: a :: b :: c :: l :: t :: nw := perm_of [[s3], [s2], [s1], [a], [b], [c], [l], [t]] [0, 2, 6, 7] nw
theorem permV {α : Type} {s3 s2 s1 e a b c l t : α} {nw : List α} : ∀ q ∈ s3 :: s1 :: l :: t :: nw, q ∈ s3 :: s2 :: s1 :: e :: a :: b :: c :: l :: t :: nw := perm_of [[s3], [s2], [s1], [e], [a], [b], [c], [l], [t]] [0, 2, 7, 8] nw
theorem permZ2 {α : Type} {t f d x l tb : α} {nw : List α} : ∀ q ∈ t :: l :: tb :: nw, q ∈ t :: f :: d :: x :: l :: tb :: nw := perm_of [[t], [f], [d], [x], [l], [tb]] [0, 4, 5] nw
theorem ktn_olds {ls d : Addr} {o : Obj} {ps : Array Value} {own news : List (Addr × Obj)} (lz : ls < d ∧ 360 < d ∧ AllLt d (own ++ news)) : ∀ r ∈ (ls, o) :: (360, tabObj ps) :: news, @LT.lt Nat _ r.1 d := fun r hr => by
  rcases List.mem_cons.mp hr with rfl | hr
  · exact lz.1
  rcases List.mem_cons.mp hr with rfl | hr
  · exact lz.2.1
  · exact ktn_ltOf lz.2.2 r (List.mem_append_right _ hr)
noncomputable def selBody : List Stmt := match inAt 7 6 with | .FunctionDef _ _ b _ _ _ _ _ _ _ => b | _ => []
noncomputable def selScope : Scope := match inAt 7 6 with | .FunctionDef _ _ _ _ _ _ s _ _ _ => s | _ => default
noncomputable def selAt (i : Nat) : Stmt := selBody.getD i (.Pass ⟨0, 0, 0, 0⟩)
noncomputable abbrev SE (L : Addr) : Env := envOfC (Str.ofString "Guillotine._select_fittest_section") selScope L 365 (.ref 364)
theorem permT {α : Type} {f d x l t : α} {own nw : List α} : ∀ q ∈ f :: d :: x :: l :: t :: (own ++ nw), q ∈ f :: (own ++ (d :: x :: l :: t :: nw)) := perm_of [[f], own, [d], [x], [l], [t]] [0, 2, 3, 4, 5, 1] nw
section
variable {w : World} {dp un : Nat} {gd : Option (List Code)} {env : Env} {outer : List Env} {A₀ : Around} {base h₀ : Heap} {L : Addr} {m : Str → Option Value} {p : Program} {loose : List Str} {mean : ExcName → Option Value} {mg mb : Str → Option Value} {news : List (Addr × Obj)} {s : Shared} {Q E : Value → Shared → Prop}
/-- the try: of the candidates the least is taken, or none -/
theorem sel_try {k : Nat} {wi hi : Int} {rotb : Bool} {acc1 acc2 secs : List Value} {qs : List Q4} {S ls : Addr} {x : Addr × Obj} {ns : Nat} {ps : Array Value} {nw : List (Addr × Obj)} {Q : Flow → Shared → Prop}
    (Cc : Cx 7 w dp un (SE L) outer A₀ base h₀ L m p loose mean mg mb s.heap) (CH : CodeHd base 364 360) (XB : (Mine.K w.params).In base) (TB : Top p loose mean mg mb base)
    (N : News h₀ L s.heap ((S, ({ cls := .type "list", data := .seq (acc1 ++ acc2).toArray } : Obj)) :: x :: (ls, listOf secs.toArray ns) :: (360, tabObj ps) :: nw)) (hS : @Ne Nat S 360) (hx : @Ne Nat x.1 360) (hne : ls ≠ 360) (hnw : ∀ q ∈ nw, q.1 ≠ 360) (hT : TabOk ps nw)
    (cand1 : CandsIn nw secs false acc1 (candsTo (fun q => fitV k q.2.2.1 q.2.2.2 wi hi) qs qs.length)) (cand2 : CandsIn nw secs true acc2 (turned rotb (fun q => fitV k q.2.2.1 q.2.2.2 hi wi) qs)) (mf : m (Str.ofString "fit") = some (.ref S))
    (retS : ∀ j n fl v m' h' tk' ps' own, secs[j]? = some v → SelOk k qs wi hi rotb j n fl → m' (Str.ofString "sec") = some v → m' (Str.ofString "rot") = some (.bool fl) → Fr h₀ L h' m' → News h₀ L h' ((ls, listOf secs.toArray ns) :: (360, tabObj ps') :: (own ++ nw)) → (∀ q ∈ own, @LT.lt Nat _ x.1 q.1) → TabOk ps' (own ++ nw) → Q .next { s with heap := h', toks := tk' })
    (retN : ∀ t m' h' tk' ps' own h₀', SelNone k qs wi hi rotb → KtsTurn (outer.filterMap (·.frame)) h₀ h₀' → Below A₀ base outer h₀' → Fr h₀' L h' m' → News h₀' L h' ((t, tupO [.none, .none]) :: (ls, listOf secs.toArray ns) :: (360, tabObj ps') :: (own ++ nw)) → (∀ q ∈ own, @LT.lt Nat _ x.1 q.1) → @LT.lt Nat _ x.1 t → TabOk ps' (own ++ nw) → Q (.ret (.ref t)) { s with heap := h', toks := tk' }) :
    wpAny (model PW w) (AR dp un gd (SE L) outer) (exec (selAt 4) (SE L)) Q E s := by
  obtain ⟨B, F, X, T, -, -, hdp, hun⟩ := Cc
  have CH₁ := CH.keeps B.stays
  have sub8 : ∀ q ∈ nw, q ∈ (S, ({ cls := .type "list", data := .seq (acc1 ++ acc2).toArray } : Obj)) :: x :: (ls, listOf secs.toArray ns) :: (360, tabObj ps) :: nw := fun q hq => .tail _ (.tail _ (.tail _ (.tail _ hq)))
  have q0 : (selAt 4) = (selAt 4) := rfl
  (conv at q0 => rhs; whnf)
  rw [q0]
  clear q0
  unfold SE at *
  have q9 : selScope = selScope := rfl
  (conv at q9 => rhs; whnf)
  rw [q9]
  clear q9
  refine wpAny_Try_except ?_
  k_steps
  refine' lam_mk F N T CH₁ rfl ?U ?tab hT rfl rfl ?_
  case U => k_updF
  case tab => exact sub8
  intro f8 c8 oc8 vs8 t8 ctv8 ps8 h8 tk8 own8 F₈ N₈ hown8 hlo8 hlf8 hd8 hv8 hok8 hca8 hf8 hin8 hcP8
  clear F N
  have N₉ : News h₀ L h8 ((f8, _) :: (S, { cls := Value.type "list", data := Data.seq (acc1 ++ acc2).toArray }) :: x :: (ls, W.listOf secs.toArray ns) :: (360, tabObj ps8) :: (own8 ++ nw)) := cb_drop N₈ permT
  have ho9 : ∀ q ∈ own8, @LT.lt Nat _ x.1 q.1 := fun q hq => hlo8 q hq _ (.tail _ (.head _))
  have hfx : @LT.lt Nat _ x.1 f8 := hf8 _ (.tail _ (.head _))
  have hT9 : TabOk ps8 (own8 ++ nw) := ⟨hok8, .inr ⟨c8, oc8, vs8, t8, hca8, hown8, hd8, hv8⟩⟩
  have cand1' := cand1.mono (led' := own8 ++ nw) fun q hq => List.mem_append_right _ hq
  have cand2' := cand2.mono (led' := own8 ++ nw) fun q hq => List.mem_append_right _ hq
  have R1 := fun j n fl v m' h' tk' => retS j n fl v m' h' tk' ps8 own8
  have R2 := fun t m' h' tk' => retN t m' h' tk' ps8 own8
  clear N₈ cand1 cand2 retS retN
  generalize hnw9 : own8 ++ nw = nw9 at N₉ cand1' cand2' hown8 hT9 R1 R2
  k_steps
  refine HoldA.mk ?_
  show wpAny _ _ (call (.builtin "min") [.ref S] [(Str.ofString "key", .ref f8)]) _ _ _
  by_cases hemp : acc1 ++ acc2 = []
  · refine min_empty rfl ⟨_, (N₉ _ (.tail _ (.head _))).1, rfl, _, by rw [hemp]⟩ fun hx' tkx ex hne' => ?_
    refine caughtHere (m := _) rfl rfl rfl B F₈ N₉ hne' XB TB rfl (fun g' s' Q' E' F X T h => nameX_B F X T (by k_is) PyProof.Rows.Boot.«ValueError» (by decide) h) PySem.F.isExc_ValueError PySem.F.notTuple_ValueError (by kts_sub) fun hy gy Ty Fy Ny By Xy TTy => ?_
    have hsn : SelNone k qs wi hi rotb := sel_none (List.length_eq_zero_iff.mp (by rw [← both_len cand1' cand2', hemp]; rfl))
    clear F₈ N₉
    k_steps
    rename Fr _ _ _ _ => Fz
    rename News _ _ _ _ => Nz
    rename_i lz
    exact R2 _ _ _ _ _ hsn Ty By Fz (cb_drop Nz permZ2) ho9 (Nat.lt_trans hfx lz.1) hT9
  · refine kmk_min (vs := acc1 ++ acc2) (keyAt (both (candsTo (fun q => fitV k q.2.2.1 q.2.2.2 wi hi) qs qs.length) (turned rotb (fun q => fitV k q.2.2.1 q.2.2.2 hi wi) qs))) rfl F₈ N₉ (fun h F N => ⟨_, (N _ (.tail _ (.head _))).1, rfl, _, rfl⟩) (List.length_pos_iff.mpr hemp) (fun i v hv h tk own F N => ?_) (fun i v h tk hv hmin F N => ?_)
    · obtain ⟨c, fl, hc, t, tk1, v1, rfl, _, hm⟩ := both_get cand1' cand2' hv
      have hm' := List.mem_append_left own hm
      have hco' := List.mem_append_left own hown8
      simp only [List.cons_append] at N
      clear N₉ F₈
      refine wpAny_call ?_
      k_dflt kla_enter
      k_steps
      all_goals exact ⟨_, _, _, rfl, congrArg (fun n => Value.int n tk1) (by unfold keyAt; rw [hc]; rfl), by assumption, by assumption⟩
    · obtain ⟨c, fl, hc, t, tk1, v1, rfl, hvj, hm⟩ := both_get cand1' cand2' hv
      have hso : SelOk k qs wi hi rotb c.2 c.1 fl := sel_ok rfl hc (both_len cand1' cand2') hmin
      clear N₉ F₈
      k_steps
      rename Fr _ _ _ _ => Fz
      rename News _ _ _ _ => Nz
      exact R1 c.2 c.1 fl v1 _ _ _ hvj hso (by first | exact if_pos rfl | exact (if_neg (by decide)).trans (if_pos rfl)) (by first | exact if_pos rfl | exact (if_neg (by decide)).trans (if_pos rfl)) Fz (cb_drop Nz fun q hq => .tail _ (.tail _ (.tail _ hq))) ho9 hT9
end
section
variable {w : World} {dp un : Nat} {gd : Option (List Code)} {env : Env} {outer : List Env} {A₀ : Around} {base h₀ : Heap} {L : Addr} {m : Str → Option Value} {p : Program} {loose : List Str} {mean : ExcName → Option Value} {mg mb : Str → Option Value} {news : List (Addr × Obj)} {s : Shared} {Q E : Value → Shared → Prop}
/-- _select_fittest_section: the section of the least value over the sections and the let turns, or none -/
theorem select_any {C b db ls lr sf : Addr} {Wb Hb : Value} {rotb : Bool} {hb kb : _} {wi hi : Int} {t5 t6 : Tok} {secs : List Value} {qs : List Q4} {ns : Nat} {ps : Array Value}
    (hC : C ∈ BX) (Cc : Cx 9 w dp un env outer A₀ base h₀ L m p loose mean mg mb s.heap) (CH : CodeHd base 364 360) (XB : (Mine.K w.params).In base) (TB : Top p loose mean mg mb base)
    (N : News h₀ L s.heap ((ls, listOf secs.toArray ns) :: (360, tabObj ps) :: news)) (hsz : secs.length ≤ 900) (hn : ∀ p ∈ news, p.1 ≠ ls) (hn2 : ∀ p ∈ news, p.1 ≠ 360) (hne : ls ≠ 360) (hT : TabOk ps news)
    (h1 : (b, instObj C db) ∈ news) (h2 : (db, dictOf (boxDict Wb Hb (.bool rotb) lr sf ls hb kb) 8) ∈ news) (hq : SecsIn news secs qs)
    (hqs : ∀ q ∈ qs, 0 ≤ q.2.2.1 ∧ q.2.2.1 < bigI ∧ 0 ≤ q.2.2.2 ∧ q.2.2.2 < bigI) (hw : 0 < wi) (hh : 0 < hi) (hab : AllBare s.gens)
    (retS : ∀ j n fl v t h' tk' gs' d' ps' own, secs[j]? = some v → SelOk (choiceOf C) qs wi hi rotb j n fl → AllBare gs' → Fr h₀ L h' m → News h₀ L h' ((t, tupO [v, .bool fl]) :: (ls, listOf secs.toArray ns) :: (360, tabObj ps') :: (own ++ news)) →
      (∀ q ∈ own, ∀ r ∈ (ls, listOf secs.toArray ns) :: (360, tabObj ps) :: news, @LT.lt Nat _ r.1 q.1) → (∀ r ∈ (ls, listOf secs.toArray ns) :: (360, tabObj ps) :: news, @LT.lt Nat _ r.1 t) → TabOk ps' (own ++ news) → Q (.ref t) { s with heap := h', gens := gs', drawn := d', toks := tk' })
    (retN : ∀ t h' tk' gs' d' ps' own h₀', SelNone (choiceOf C) qs wi hi rotb → AllBare gs' → KtsTurn (outer.filterMap (·.frame)) h₀ h₀' → Below A₀ base outer h₀' → Fr h₀' L h' m → News h₀' L h' ((t, tupO [.none, .none]) :: (ls, listOf secs.toArray ns) :: (360, tabObj ps') :: (own ++ news)) →
      (∀ q ∈ own, ∀ r ∈ (ls, listOf secs.toArray ns) :: (360, tabObj ps) :: news, @LT.lt Nat _ r.1 q.1) → (∀ r ∈ (ls, listOf secs.toArray ns) :: (360, tabObj ps) :: news, @LT.lt Nat _ r.1 t) → TabOk ps' (own ++ news) → Q (.ref t) { s with heap := h', gens := gs', drawn := d', toks := tk' }) :
    wpAny (model PW w) (AR dp un gd env outer) (call (.ref 365) [.ref b, .int wi t5, .int hi t6]) Q E s := by
  obtain ⟨B, F, X, T, hf, hk, hdp, hun⟩ := Cc
  have hlen := hq.length
  refine wpAny_call ?_
  k_dflt kts_go
  rename_i g₁ L₁ h₁ tk₁ FG₁ F₁ B₁ X₁ T₁ l1 o1 o2 o3 d1 d2 d3 N₁
  have e1 : o1.data = .cell (some (.int hi t6)) := d1
  have e2 : o2.data = .cell (some (.int wi t5)) := d2
  have e3 : o3.data = .cell (some (.ref b)) := d3
  clear d1 d2 d3
  have F₂ : Fr g₁ L₁ h₁ (fun _ => none) := F₁
  clear F₁
  have CH₁ := CH.keeps B₁.stays
  have l360 : @LT.lt Nat _ 360 L₁ := l1.2.1
  have hold : ∀ r ∈ (ls, listOf secs.toArray ns) :: (360, tabObj ps) :: news, @LT.lt Nat _ r.1 L₁ := fun r hr => by
    rcases List.mem_cons.mp hr with rfl | hr
    · exact l1.1
    rcases List.mem_cons.mp hr with rfl | hr
    · exact l1.2.1
    · exact ktn_ltOf l1.2.2 r hr
  k_steps
  refine' genexp_full (fz := (L₁ + 1 + 1 + 1, o1) :: (L₁ + 1 + 1, o2) :: (L₁ + 1, o3) :: news) (qs := qs) (fit := fun q => fitV (choiceOf C) q.2.2.1 q.2.2.2 wi hi) (flag := false) (outer := env :: outer) F₂ N₁ T₁ CH₁ rfl ?U hT.ok rfl (l := ls) (ns := ns) (vs := secs) ?hl ?hroom rfl rfl ?hcell rfl rfl (fun _ => rfl) hab (fun _ _ => rfl) ?hit ?hG ?_
  case U => k_updF
  case hl => k_mem
  case hroom => k_room
  case hcell => decide
  case hit => k_steps; all_goals first | exact F₂.above | exact N₁ | k_asm
  case hG =>
    intro C1 code1
    clear retS retN F₂ N₁ CH₁ T₁ X₁ B₁ FG₁ T X B F N hab CH XB TB
    constructor
    · intro dp un gd A₀ base g mC led s Q E j v q hj hj2 Cx5 N5 hsub hm hret
      obtain ⟨a, d, hs, ks, s1, s2, s3, s4, rid, rfl, n1, n2⟩ := hq.get hj hj2
      have hqq := hqs q (List.mem_of_getElem? hj2)
      obtain ⟨B5, F5, X5, T5, hf5, hk5, hdp5, hun5⟩ := Cx5
      have sub : ∀ p ∈ news, p ∈ led := fun p hp => hsub p (.tail _ (.tail _ (.tail _ hp)))
      have w1 := sub _ h1
      have w2 := sub _ h2
      have w3 := sub _ n1
      have w4 := sub _ n2
      have w5 := hsub (L₁ + 1 + 1 + 1, o1) (by k_mem)
      have w6 := hsub (L₁ + 1 + 1, o2) (by k_mem)
      have w7 := hsub (L₁ + 1, o3) (by k_mem)
      k_steps
      all_goals first
        | (rename fitV _ _ _ _ _ = none => hz; refine boolRet ?_ (hret _ _ (by k_asm) (by k_asm)); rw [hz]; rfl)
        | (rename fitV _ _ _ _ _ = some _ => hz; refine boolRet ?_ (hret _ _ (by k_asm) (by k_asm)); rw [hz]; rfl)
    · intro dp un gd A₀ base g mC led s Q E j v q n hj hj2 hfit Cx5 N5 hsub hm hret
      obtain ⟨a, d, hs, ks, s1, s2, s3, s4, rid, rfl, n1, n2⟩ := hq.get hj hj2
      have hqq := hqs q (List.mem_of_getElem? hj2)
      obtain ⟨B5, F5, X5, T5, hf5, hk5, hdp5, hun5⟩ := Cx5
      have sub : ∀ p ∈ news, p ∈ led := fun p hp => hsub p (.tail _ (.tail _ (.tail _ hp)))
      have w1 := sub _ h1
      have w2 := sub _ h2
      have w3 := sub _ n1
      have w4 := sub _ n2
      have w5 := hsub (L₁ + 1 + 1 + 1, o1) (by k_mem)
      have w6 := hsub (L₁ + 1 + 1, o2) (by k_mem)
      have w7 := hsub (L₁ + 1, o3) (by k_mem)
      k_steps
      all_goals first
        | (rename fitV _ _ _ _ _ = none => hz; exact absurd (hz.symm.trans hfit) (by simp))
        | (rename fitV _ _ _ _ _ = some _ => hz; obtain rfl : _ = n := Option.some.inj (hz.symm.trans hfit); exact hret _ _ _ _ (by k_asm) (by k_asm) (by k_asm))
  intro I1 oI1 C1 oC1 a1 oa1 ps1 h' tk' gs1 F' N' hI1 hC1 hg1 l2 l3 l4 l5 st1 hab1 hgs1 hgs2 G1
  clear F₂ N₁ hab
  k_steps
  rename Fr _ _ _ _ => F₃
  rename News _ _ _ _ => N₃
  refine' genexp_full (fz := (L₁ + 1 + 1 + 1, o1) :: (L₁ + 1 + 1, o2) :: (L₁ + 1, o3) :: news) (qs := qs) (fit := fun q => fitV (choiceOf C) q.2.2.1 q.2.2.2 hi wi) (flag := true) (outer := env :: outer) F₃ N₃ T₁ CH₁ rfl ?U (st1.ok hT.ok) rfl (l := ls) (ns := ns) (vs := secs) ?hl ?hroom rfl rfl ?hcell rfl rfl (fun _ => rfl) hab1 (fun _ _ => rfl) ?hit ?hG ?_
  case U => k_updF
  case hl => k_mem
  case hroom => k_room
  case hcell => decide
  case hit => k_steps; all_goals first | exact F₃.above | exact N₃ | k_asm
  case hG =>
    intro C1 code1
    clear retS retN F₃ N₃ CH₁ T₁ X₁ B₁ FG₁ T X B F N hab1 CH G1 XB TB
    constructor
    · intro dp un gd A₀ base g mC led s Q E j v q hj hj2 Cx5 N5 hsub hm hret
      obtain ⟨a, d, hs, ks, s1, s2, s3, s4, rid, rfl, n1, n2⟩ := hq.get hj hj2
      have hqq := hqs q (List.mem_of_getElem? hj2)
      obtain ⟨B5, F5, X5, T5, hf5, hk5, hdp5, hun5⟩ := Cx5
      have sub : ∀ p ∈ news, p ∈ led := fun p hp => hsub p (.tail _ (.tail _ (.tail _ hp)))
      have w1 := sub _ h1
      have w2 := sub _ h2
      have w3 := sub _ n1
      have w4 := sub _ n2
      have w5 := hsub (L₁ + 1 + 1 + 1, o1) (by k_mem)
      have w6 := hsub (L₁ + 1 + 1, o2) (by k_mem)
      have w7 := hsub (L₁ + 1, o3) (by k_mem)
      k_steps
      all_goals first
        | (rename fitV _ _ _ _ _ = none => hz; refine boolRet ?_ (hret _ _ (by k_asm) (by k_asm)); rw [hz]; rfl)
        | (rename fitV _ _ _ _ _ = some _ => hz; refine boolRet ?_ (hret _ _ (by k_asm) (by k_asm)); rw [hz]; rfl)
    · intro dp un gd A₀ base g mC led s Q E j v q n hj hj2 hfit Cx5 N5 hsub hm hret
      obtain ⟨a, d, hs, ks, s1, s2, s3, s4, rid, rfl, n1, n2⟩ := hq.get hj hj2
      have hqq := hqs q (List.mem_of_getElem? hj2)
      obtain ⟨B5, F5, X5, T5, hf5, hk5, hdp5, hun5⟩ := Cx5
      have sub : ∀ p ∈ news, p ∈ led := fun p hp => hsub p (.tail _ (.tail _ (.tail _ hp)))
      have w1 := sub _ h1
      have w2 := sub _ h2
      have w3 := sub _ n1
      have w4 := sub _ n2
      have w5 := hsub (L₁ + 1 + 1 + 1, o1) (by k_mem)
      have w6 := hsub (L₁ + 1 + 1, o2) (by k_mem)
      have w7 := hsub (L₁ + 1, o3) (by k_mem)
      k_steps
      all_goals first
        | (rename fitV _ _ _ _ _ = none => hz; exact absurd (hz.symm.trans hfit) (by simp))
        | (rename fitV _ _ _ _ _ = some _ => hz; obtain rfl : _ = n := Option.some.inj (hz.symm.trans hfit); exact hret _ _ _ _ (by k_asm) (by k_asm) (by k_asm))
  intro I2 oI2 C2 oC2 a2 oa2 ps2 h'2 tk'2 gs2 F'2 N'2 hI2 hC2 hg2 m2 m3 m4 m5 st2 hab2 hgs3 hgs4 G2
  clear F₃ N₃ hab1
  have hgs1' : gs1.size = s.gens.size + 1 := hgs1
  have G1' := G1.moved (hgs4 _ (by show s.gens.size < gs1.size; omega))
  clear G1
  have hA12 : @LT.lt Nat _ a1 I2 := m2 _ (.head _)
  have hC1' : @LT.lt Nat _ C1 a1 := l5
  have l2' : ∀ q ∈ (L₁ + 1 + 1 + 1, o1) :: (L₁ + 1 + 1, o2) :: (L₁ + 1, o3) :: (ls, W.listOf secs.toArray ns) :: (360, tabObj ps2) :: news, @LT.lt Nat _ q.1 I1 := chg l2
  have l2'' : ∀ q ∈ (L₁ + 1 + 1 + 1, o1) :: (L₁ + 1 + 1, o2) :: (L₁ + 1, o3) :: (ls, W.listOf secs.toArray ns) :: (360, tabObj ps2) :: news, @LT.lt Nat _ q.1 I2 := fun q hq => Nat.lt_trans (l2' q hq) (Nat.lt_trans l4 (Nat.lt_trans l5 hA12))
  k_steps
  · rename Fr _ _ _ _ => F₄
    rename News _ _ _ _ => N₄
    rename rotb = true => hrot
    refine' list_ready (gn := s.gens.size) (fz := (a2, oa2) :: (C2, oC2) :: (I2, oI2) :: (L₁ + 1 + 1 + 1, o1) :: (L₁ + 1 + 1, o2) :: (L₁ + 1, o3) :: (ls, W.listOf secs.toArray ns) :: (360, tabObj ps2) :: news) G1' subA hq.length B₁ F₄ X₁ T₁ rfl rfl ?hd ?hu ?hl (by omega) ?N hI1 hC1 hg1 ?hfz ?hLC l4 l5 hab2 ?_
    case hd => k_room
    case hu => k_units
    case hl => k_mem
    case N => exact cb_drop N₄ perm4
    case hfz => exact apart_cons (Nat.lt_trans hC1' (Nat.lt_trans hA12 (Nat.lt_trans m4 m5))) l4 (apart_cons (Nat.lt_trans hC1' (Nat.lt_trans hA12 m4)) l4 (apart_cons (Nat.lt_trans hC1' hA12) l4 (apart_ltK l2' l4)))
    case hLC => exact Nat.lt_trans l3 l4
    intro S1 acc1 c1 tups1 h5 tk5 gs5 d5 F₅ N₅ ht1 hz1 hc1 hab5 hk5 hLS1
    have N₅' : News g₁ L₁ h5 ((a2, oa2) :: (C2, oC2) :: (I2, oI2) :: (S1, lstO acc1 c1) :: (L₁ + 1 + 1 + 1, o1) :: (L₁ + 1 + 1, o2) :: (L₁ + 1, o3) :: (ls, W.listOf secs.toArray ns) :: (360, tabObj ps2) :: (tups1 ++ news)) := cb_drop N₅ perm5
    have hS1 : @LT.lt Nat _ a2 S1 := hz1 _ (.head _)
    have G2' := G2.moved (hk5 _ (by show gs1.size ≠ s.gens.size; omega))
    clear N₅ F₄ N₄ G2
    k_steps
    refine' list_ready (gn := gs1.size) (fz := (S1, lstO acc1 c1) :: (L₁ + 1 + 1 + 1, o1) :: (L₁ + 1 + 1, o2) :: (L₁ + 1, o3) :: (ls, W.listOf secs.toArray ns) :: (360, tabObj ps2) :: (tups1 ++ news)) G2' subB hq.length B₁ F₅ X₁ T₁ rfl rfl ?hd ?hu ?hl (by omega) ?N hI2 hC2 hg2 ?hfz ?hLC m4 m5 hab5 ?_
    case hd => k_room
    case hu => k_units
    case hl => k_mem
    case N => exact N₅'
    case hfz => exact apart_cons (Nat.lt_trans m5 hS1) m4 (apart_mid (fun q hq => Nat.lt_trans (Nat.lt_trans m5 hS1) (ht1 q hq)) m4 (apart_ltK l2'' m4))
    case hLC => exact Nat.lt_trans m3 m4
    intro S2 acc2 c2 tups2 h6 tk6 gs6 d6 F₆ N₆ ht2 hz2 hc2 hab6 hk6 hLS2
    have N₆' : News g₁ L₁ h6 ((S2, lstO acc2 c2) :: (S1, lstO acc1 c1) :: (L₁ + 1 + 1 + 1, o1) :: (L₁ + 1 + 1, o2) :: (L₁ + 1, o3) :: (ls, W.listOf secs.toArray ns) :: (360, tabObj ps2) :: (tups2 ++ (tups1 ++ news))) := cb_drop N₆ perm6
    have hz6 : @LT.lt Nat _ L₁ h6.objs.size := F₆.ns.lt
    clear N₆ F₅ N₅'
    have len1 := hc1.length
    have len2 := hc2.length
    have len3 := candsTo_len (fun q => fitV (choiceOf C) q.2.2.1 q.2.2.2 wi hi) qs qs.length
    have len4 := candsTo_len (fun q => fitV (choiceOf C) q.2.2.1 q.2.2.2 hi wi) qs qs.length
    k_steps
    rename Fr _ _ _ _ => F₇
    rename News _ _ _ _ => N₇
    dsimp only at F₇ N₇
    obtain ⟨S3, hS3⟩ : ∃ S3 : Addr, S3 = h6.objs.size := ⟨_, rfl⟩
    rw [← hS3] at F₇ N₇ hz6
    clear hS3
    have ownw : ∃ own, tups2 ++ (tups1 ++ news) = own ++ news ∧ ∀ q ∈ own, @LT.lt Nat _ L₁ q.1 := ⟨tups2 ++ tups1, by rw [List.append_assoc], fun q hq => by
      rcases List.mem_append.mp hq with hq | hq
      · exact Nat.lt_trans hLS2 (ht2 q hq)
      · exact Nat.lt_trans hLS1 (ht1 q hq)⟩
    have hlt2 : ∀ q ∈ tups2 ++ (tups1 ++ news), q.1 ≠ 360 := by
      obtain ⟨o, e, h⟩ := ownw
      rw [e]; exact newNe h l360 hn2
    have cand1 : CandsIn (tups2 ++ (tups1 ++ news)) secs false acc1 (candsTo (fun q => fitV (choiceOf C) q.2.2.1 q.2.2.2 wi hi) qs qs.length) := hc1.mono fun q hq => List.mem_append_right _ (List.mem_append_left _ hq)
    have cand2 : CandsIn (tups2 ++ (tups1 ++ news)) secs true acc2 (turned true (fun q => fitV (choiceOf C) q.2.2.1 q.2.2.2 hi wi) qs) := hc2.mono fun q hq => List.mem_append_left _ hq
    have hT2 : TabOk ps2 (tups2 ++ (tups1 ++ news)) := ((hT.step st1 (by decide)).step st2 (by decide)).mono fun q hq => List.mem_append_right _ (List.mem_append_right _ hq)
    generalize hnw : tups2 ++ (tups1 ++ news) = nw at N₇ hlt2 cand1 cand2 hT2 ownw
    have sub8 : ∀ q ∈ nw, q ∈ (S3, ({ cls := Value.type "list", data := Data.seq (acc1 ++ acc2).toArray } : Obj)) :: (S2, lstO acc2 c2) :: (S1, lstO acc1 c1) :: (L₁ + 1 + 1 + 1, o1) :: (L₁ + 1 + 1, o2) :: (L₁ + 1, o3) :: (ls, W.listOf secs.toArray ns) :: (360, tabObj ps2) :: nw := fun q hq => .tail _ (.tail _ (.tail _ (.tail _ (.tail _ (.tail _ (.tail _ (.tail _ hq)))))))
    refine sel_try (k := choiceOf C) (rotb := rotb) (wi := wi) (hi := hi) (qs := qs) (acc1 := acc1) (acc2 := acc2) (x := (S1, lstO acc1 c1)) ⟨B₁, F₇, X₁, T₁, rfl, rfl, by k_room, by k_units⟩ CH XB TB (cb_drop N₇ permU) (Nat.ne_of_gt (Nat.lt_trans l360 hz6)) (Nat.ne_of_gt (Nat.lt_trans l360 hLS1)) hne hlt2 hT2 cand1 (by rw [hrot]; exact cand2) (by rfl) ?_ ?_
    · intro j n fl v m' h' tk' ps' own8 hvj hso ms mr F' N' ho8 hT9
      obtain ⟨o, e, h⟩ := ownw
      have ho9 : ∀ q ∈ own8 ++ o, @LT.lt Nat _ L₁ q.1 := fun q hq => (List.mem_append.mp hq).elim (fun hq => Nat.lt_trans hLS1 (ho8 q hq)) (h q)
      rw [e, ← List.append_assoc] at N' hT9
      clear F₇ N₇
      k_steps
      rename Fr _ _ _ _ => Fz
      rename News _ _ _ _ => Nz
      rename_i lz
      obtain ⟨F₀, oC, _, N₀⟩ := unbase FG₁ Fz Nz
      exact retS j n fl v _ _ _ _ _ ps' (own8 ++ o) hvj hso hab6 F₀ (cb_drop N₀ fun _ => .tail _) (fun q hq r hr => Nat.lt_trans (hold r hr) (ho9 q hq)) (ktn_olds lz) hT9
    · intro t m' h' tk' ps' own8 h₀' hsn Ty By F' N' ho8 hxt hT9
      obtain ⟨o, e, h⟩ := ownw
      have ho9 : ∀ q ∈ own8 ++ o, @LT.lt Nat _ L₁ q.1 := fun q hq => (List.mem_append.mp hq).elim (fun hq => Nat.lt_trans hLS1 (ho8 q hq)) (h q)
      rw [e, ← List.append_assoc] at N' hT9
      clear F₇ N₇
      k_steps
      obtain ⟨h₂, T₀, F₀, B₀, N₀⟩ := leaveT B FG₁ hf Ty F' N'
      exact retN _ _ _ _ _ ps' (own8 ++ o) h₂ hsn hab6 T₀ B₀ F₀ N₀ (fun q hq r hr => Nat.lt_trans (hold r hr) (ho9 q hq)) (fun r hr => Nat.lt_trans (hold r hr) (Nat.lt_trans hLS1 hxt)) hT9
  · rename Fr _ _ _ _ => F₄
    rename News _ _ _ _ => N₄
    rename rotb = false => hrot
    rename_i lE hX8 hE hX9
    refine' list_ready (gn := s.gens.size) (fz := (lE, W.listOf #[] 0) :: (L₁ + 1 + 1 + 1, o1) :: (L₁ + 1 + 1, o2) :: (L₁ + 1, o3) :: (ls, W.listOf secs.toArray ns) :: (360, tabObj ps2) :: news) G1' subC hq.length B₁ F₄ X₁ T₁ rfl rfl ?hd ?hu ?hl (by omega) ?N hI1 hC1 hg1 ?hfz ?hLC l4 l5 hab2 ?_
    case hd => k_room
    case hu => k_units
    case hl => k_mem
    case N => exact cb_drop N₄ permF
    case hfz => exact apart_cons hE.2.2.2.2.1 l4 (apart_ltK l2' l4)
    case hLC => exact Nat.lt_trans l3 l4
    intro S1 acc1 c1 tups1 h5 tk5 gs5 d5 F₅ N₅ ht1 hz1 hc1 hab6 hk5 hLS1
    have N₅' : News g₁ L₁ h5 ((S1, lstO acc1 c1) :: (lE, W.listOf #[] 0) :: (L₁ + 1 + 1 + 1, o1) :: (L₁ + 1 + 1, o2) :: (L₁ + 1, o3) :: (ls, W.listOf secs.toArray ns) :: (360, tabObj ps2) :: (tups1 ++ news)) := cb_drop N₅ perm6
    have hz6 : @LT.lt Nat _ L₁ h5.objs.size := F₅.ns.lt
    clear N₅ F₄ N₄ G2
    have len1 := hc1.length
    have len3 := candsTo_len (fun q => fitV (choiceOf C) q.2.2.1 q.2.2.2 wi hi) qs qs.length
    k_steps
    rename Fr _ _ _ _ => F₇
    rename News _ _ _ _ => N₇
    dsimp only at F₇ N₇
    rename_i D2 c2 hX2 hl2 hX1 hX0
    obtain ⟨S3, hS3⟩ : ∃ S3 : Addr, S3 = hX2.objs.size := ⟨_, rfl⟩
    rw [← hS3] at F₇ N₇
    clear hS3
    have hz6 : @Ne Nat S3 360 := listNe N₇ (.head _) (.tail _ (.tail _ (.tail _ (.tail _ (.tail _ (.tail _ (.tail _ (.tail _ (.head _)))))))))
    have ownw : ∃ own, tups1 ++ news = own ++ news ∧ ∀ q ∈ own, @LT.lt Nat _ L₁ q.1 := ⟨tups1, rfl, fun q hq => Nat.lt_trans hLS1 (ht1 q hq)⟩
    have hlt2 : ∀ q ∈ tups1 ++ news, q.1 ≠ 360 := newNe (fun q hq => Nat.lt_trans hLS1 (ht1 q hq)) l360 hn2
    have cand1 : CandsIn (tups1 ++ news) secs false acc1 (candsTo (fun q => fitV (choiceOf C) q.2.2.1 q.2.2.2 wi hi) qs qs.length) := hc1.mono fun q hq => List.mem_append_left _ hq
    have cand2 : CandsIn (tups1 ++ news) secs true [] (turned false (fun q => fitV (choiceOf C) q.2.2.1 q.2.2.2 hi wi) qs) := trivial
    have hT2 : TabOk ps2 (tups1 ++ news) := ((hT.step st1 (by decide)).step st2 (by decide)).mono fun q hq => List.mem_append_right _ hq
    generalize hnw : tups1 ++ news = nw at N₇ hlt2 cand1 cand2 hT2 ownw hl2
    have sub8 : ∀ q ∈ nw, q ∈ (S3, ({ cls := Value.type "list", data := Data.seq (acc1 ++ []).toArray } : Obj)) :: (D2, W.listOf #[] c2) :: (S1, lstO acc1 c1) :: (lE, W.listOf #[] 0) :: (L₁ + 1 + 1 + 1, o1) :: (L₁ + 1 + 1, o2) :: (L₁ + 1, o3) :: (ls, W.listOf secs.toArray ns) :: (360, tabObj ps2) :: nw := fun q hq => .tail _ (.tail _ (.tail _ (.tail _ (.tail _ (.tail _ (.tail _ (.tail _ (.tail _ hq))))))))
    refine sel_try (k := choiceOf C) (rotb := rotb) (wi := wi) (hi := hi) (qs := qs) (acc1 := acc1) (acc2 := []) (x := (S1, lstO acc1 c1)) ⟨B₁, F₇, X₁, T₁, rfl, rfl, by k_room, by k_units⟩ CH XB TB (cb_drop N₇ permV) hz6 (Nat.ne_of_gt (Nat.lt_trans l360 hLS1)) hne hlt2 hT2 cand1 (by rw [hrot]; exact cand2) (by rfl) ?_ ?_
    · intro j n fl v m' h' tk' ps' own8 hvj hso ms mr F' N' ho8 hT9
      obtain ⟨o, e, h⟩ := ownw
      have ho9 : ∀ q ∈ own8 ++ o, @LT.lt Nat _ L₁ q.1 := fun q hq => (List.mem_append.mp hq).elim (fun hq => Nat.lt_trans hLS1 (ho8 q hq)) (h q)
      rw [e, ← List.append_assoc] at N' hT9
      clear F₇ N₇
      k_steps
      rename Fr _ _ _ _ => Fz
      rename News _ _ _ _ => Nz
      rename_i lz
      obtain ⟨F₀, oC, _, N₀⟩ := unbase FG₁ Fz Nz
      exact retS j n fl v _ _ _ _ _ ps' (own8 ++ o) hvj hso hab6 F₀ (cb_drop N₀ fun _ => .tail _) (fun q hq r hr => Nat.lt_trans (hold r hr) (ho9 q hq)) (ktn_olds lz) hT9
    · intro t m' h' tk' ps' own8 h₀' hsn Ty By F' N' ho8 hxt hT9
      obtain ⟨o, e, h⟩ := ownw
      have ho9 : ∀ q ∈ own8 ++ o, @LT.lt Nat _ L₁ q.1 := fun q hq => (List.mem_append.mp hq).elim (fun hq => Nat.lt_trans hLS1 (ho8 q hq)) (h q)
      rw [e, ← List.append_assoc] at N' hT9
      clear F₇ N₇
      k_steps
      obtain ⟨h₂, T₀, F₀, B₀, N₀⟩ := leaveT B FG₁ hf Ty F' N'
      exact retN _ _ _ _ _ ps' (own8 ++ o) h₂ hsn hab6 T₀ B₀ F₀ N₀ (fun q hq r hr => Nat.lt_trans (hold r hr) (ho9 q hq)) (fun r hr => Nat.lt_trans (hold r hr) (Nat.lt_trans hLS1 hxt)) hT9

end
end Mine
namespace Mine
noncomputable def splitFns : List (Addr × Addr) := [(467, 464), (581, 578), (695, 692), (486, 483), (600, 597), (714, 711), (505, 502), (619, 616), (733, 730), (524, 521), (638, 635), (752, 749), (543, 540), (657, 654), (771, 768), (562, 559), (676, 673), (790, 787)]
noncomputable def splitFn (C : Addr) : Addr := (splitFns.lookup C).getD 0
theorem valRet {Q : Value → Shared → Prop} {v v' : Value} {s : Shared} (e : v = v') (h : Q v s) : Q v' s := e ▸ h
section
variable {w : World} {dp un : Nat} {gd : Option (List Code)} {env : Env} {outer : List Env} {A₀ : Around} {base h₀ : Heap} {L : Addr} {m : Str → Option Value} {p : Program} {loose : List Str} {mean : ExcName → Option Value} {mg mb : Str → Option Value} {news : List (Addr × Obj)} {s : Shared} {Q E : Value → Shared → Prop}
theorem bx_msplit {C : Addr} (hC : C ∈ BX) : findIn (Mine.K w.params) (.ref C) (Str.ofString "_split") = some (some (.ref (splitFn C))) := by
  have z := bx_all (P := fun C => match findIn (Mine.K w.params) (.ref C) (Str.ofString "_split") with | some (some (.ref g)) => Nat.beq g (splitFn C) | _ => false) (by kernel_rfl) hC
  split at z
  · rename_i g e
    rw [e, Nat.eq_of_beq_eq_true z]
  · cases z
theorem split_isFn {C : Addr} (hC : C ∈ BX) : isFn (Mine.K w.params) (.ref (splitFn C)) = true := bx_all (P := fun C => isFn (Mine.K w.params) (.ref (splitFn C))) (by kernel_rfl) hC
theorem split_keep {C : Addr} (hC : C ∈ BX) : keepIn (Mine.K w.params) (.ref (splitFn C)) = true := bx_all (P := fun C => keepIn (Mine.K w.params) (.ref (splitFn C))) (by kernel_rfl) hC
theorem split_any {C b db ls lr sf sec dx : Addr} {Wb Hb rotb : Value} {hb kb : _} {Wi Hi xi yi wi hi : Int} {t1 t2 t3 t4 t5 t6 : Tok} {rid : Value} {hs ks : _} {secs : List Value} {ns : Nat}
    (hC : C ∈ BX) (Cc : Cx 9 w dp un env outer A₀ base h₀ L m p loose mean mg mb s.heap) 
    (N : News h₀ L s.heap ((ls, listOf secs.toArray ns) :: news)) (hsz : secs.length ≤ 900) (hn : ∀ p ∈ news, p.1 ≠ ls) (hwW : wi ≤ Wi) (hhH : hi ≤ Hi) (hw0 : 0 < wi) (hh0 : 0 < hi) (hWb : Wi < bigI) (hHb : Hi < bigI)
    (h1 : (b, instObj C db) ∈ news) (h2 : (db, dictOf (boxDict Wb Hb rotb lr sf ls hb kb) 8) ∈ news)
    (h3 : (sec, instObj 203 dx) ∈ news) (h4 : (dx, dictOf (secDict (.int Wi t1) (.int Hi t2) (.int xi t3) (.int yi t4) rid hs ks) 5) ∈ news)
    (ret : ∀ nw refs ns' h' tk', Fr h₀ L h' m → News h₀ L h' ((ls, listOf (secs ++ refs).toArray ns') :: (nw ++ news)) → (∀ p ∈ nw, ∀ q ∈ (ls, listOf secs.toArray ns) :: news, @LT.lt Nat _ q.1 p.1) → SecsIn nw refs (cutBy (splitOf C) xi yi Wi Hi wi hi) → Q .none { s with heap := h', toks := tk' }) :
    wpAny (model PW w) (AR dp un gd env outer) (call (.ref (splitFn C)) [.ref b, .ref sec, .int wi t5, .int hi t6]) Q E s := by
  have hC' := hC
  simp only [BX, List.mem_cons, List.not_mem_nil, or_false] at hC'
  rcases hC' with rfl | rfl | rfl | rfl | rfl | rfl | rfl | rfl | rfl | rfl | rfl | rfl | rfl | rfl | rfl | rfl | rfl | rfl
  · exact split_BssfSas hC Cc N hsz hn hwW hhH hw0 hh0 hWb hHb h1 h2 h3 h4 ret
  · exact split_BlsfSas hC Cc N hsz hn hwW hhH hw0 hh0 hWb hHb h1 h2 h3 h4 ret
  · exact split_BafSas hC Cc N hsz hn hwW hhH hw0 hh0 hWb hHb h1 h2 h3 h4 ret
  · exact split_BssfLas hC Cc N hsz hn hwW hhH hw0 hh0 hWb hHb h1 h2 h3 h4 ret
  · exact split_BlsfLas hC Cc N hsz hn hwW hhH hw0 hh0 hWb hHb h1 h2 h3 h4 ret
  · exact split_BafLas hC Cc N hsz hn hwW hhH hw0 hh0 hWb hHb h1 h2 h3 h4 ret
  · exact split_BssfSlas hC Cc N hsz hn hwW hhH hw0 hh0 hWb hHb h1 h2 h3 h4 ret
  · exact split_BlsfSlas hC Cc N hsz hn hwW hhH hw0 hh0 hWb hHb h1 h2 h3 h4 ret
  · exact split_BafSlas hC Cc N hsz hn hwW hhH hw0 hh0 hWb hHb h1 h2 h3 h4 ret
  · exact split_BssfLlas hC Cc N hsz hn hwW hhH hw0 hh0 hWb hHb h1 h2 h3 h4 ret
  · exact split_BlsfLlas hC Cc N hsz hn hwW hhH hw0 hh0 hWb hHb h1 h2 h3 h4 ret
  · exact split_BafLlas hC Cc N hsz hn hwW hhH hw0 hh0 hWb hHb h1 h2 h3 h4 ret
  · exact split_BssfMaxas hC Cc N hsz hn hwW hhH hw0 hh0 hWb hHb h1 h2 h3 h4 ret
  · exact split_BlsfMaxas hC Cc N hsz hn hwW hhH hw0 hh0 hWb hHb h1 h2 h3 h4 ret
  · exact split_BafMaxas hC Cc N hsz hn hwW hhH hw0 hh0 hWb hHb h1 h2 h3 h4 ret
  · exact split_BssfMinas hC Cc N hsz hn hwW hhH hw0 hh0 hWb hHb h1 h2 h3 h4 ret
  · exact split_BlsfMinas hC Cc N hsz hn hwW hhH hw0 hh0 hWb hHb h1 h2 h3 h4 ret
  · exact split_BafMinas hC Cc N hsz hn hwW hhH hw0 hh0 hWb hHb h1 h2 h3 h4 ret

theorem rect_eq {a d a' d' : Addr} {W H x y W' H' x' y' : Int} {t1 t2 t3 t4 u1 u2 u3 u4 : Tok} {r r' : Value} {hs ks hs' ks' : _}
    (Cc : Cx 3 w dp un env outer A₀ base h₀ L m p loose mean mg mb s.heap) (N : News h₀ L s.heap news) (h1 : (a, instObj 203 d) ∈ news) (h2 : (d, dictOf (secDict (.int W t1) (.int H t2) (.int x t3) (.int y t4) r hs ks) 5) ∈ news)
    (h3 : (a', instObj 203 d') ∈ news) (h4 : (d', dictOf (secDict (.int W' u1) (.int H' u2) (.int x' u3) (.int y' u4) r' hs' ks') 5) ∈ news) (hne : ¬ (W = W' ∧ H = H' ∧ x = x' ∧ y = y'))
    (ret : ∀ h' tk', Fr h₀ L h' m → News h₀ L h' news → Q (.bool false) { s with heap := h', toks := tk' }) :
    wpAny (model PW w) (AR dp un gd env outer) (call (.ref 149) [.ref a, .ref a']) Q E s := by
  obtain ⟨B, F, X, T, hf, hk, hdp, hun⟩ := Cc
  refine wpAny_call ?_
  k_dflt k_enter
  k_steps
  all_goals (refine valRet (congrArg Value.bool (Eq.symm (beq_eq_false_iff_ne.mpr ?_))) (ret _ _ (by k_asm) (by k_asm)); first | assumption | (intro e; exact hne ⟨by assumption, by assumption, by assumption, e⟩))
end
end Mine
namespace Mine
section
variable {w : World} {dp un : Nat} {gd : Option (List Code)} {env : Env} {outer : List Env} {A₀ : Around} {base h₀ : Heap} {L : Addr} {m : Str → Option Value} {p : Program} {loose : List Str} {mean : ExcName → Option Value} {mg mb : Str → Option Value} {news : List (Addr × Obj)} {s : Shared} {Q E : Value → Shared → Prop}
theorem eqb_same {A : Around} {Q : Bool → Shared → Prop} {a : Addr} (h : Q true s) : wpAny (model PW w) A (eqBool (.ref a) (.ref a)) Q E s := by
  unfold eqBool
  try with_reducible refine wpAny_holding ?_
  show wpAny _ _ (if (Value.ref a == Value.ref a) = true then _ else _) Q E s
  rw [if_pos (beq_self_eq_true _)]
  exact wpAny_bind (wpAny_rule (wpAny_pure h))
theorem eqb_ne {Q : Bool → Shared → Prop} {a d a' d' : Addr} {W H x y W' H' x' y' : Int} {t1 t2 t3 t4 u1 u2 u3 u4 : Tok} {r r' : Value} {hs ks hs' ks' : _}
    (Cc : Cx 3 w dp un env outer A₀ base h₀ L m p loose mean mg mb s.heap) (N : News h₀ L s.heap news) (h1 : (a, instObj 203 d) ∈ news) (h2 : (d, dictOf (secDict (.int W t1) (.int H t2) (.int x t3) (.int y t4) r hs ks) 5) ∈ news)
    (h3 : (a', instObj 203 d') ∈ news) (h4 : (d', dictOf (secDict (.int W' u1) (.int H' u2) (.int x' u3) (.int y' u4) r' hs' ks') 5) ∈ news) (hne : ¬ (W = W' ∧ H = H' ∧ x = x' ∧ y = y')) (haa : a ≠ a')
    (ret : ∀ h' tk', Fr h₀ L h' m → News h₀ L h' news → Q false { s with heap := h', toks := tk' }) :
    wpAny (model PW w) (AR dp un gd env outer) (eqBool (.ref a) (.ref a')) Q E s := by
  unfold eqBool
  try with_reducible refine wpAny_holding ?_
  show wpAny _ _ (if (Value.ref a == Value.ref a') = true then _ else _) Q E s
  rw [if_neg (show ¬ ((Value.ref a == Value.ref a') = true) from fun e => haa (by have := eq_of_beq e; injection this))]
  have Cc' := Cc
  obtain ⟨B, F, X, T, hf, hk, hdp, hun⟩ := Cc'
  refine wpAny_bind (cmp_K (op := .Eq) (by show un < cLine; omega) F X (InstAt.of_news N h1 h2) (InstAt.type (InstAt.of_news N h3 h4)) (by k_is) (by k_is) (by k_is) ?_)
  exact rect_eq Cc N h1 h2 h3 h4 hne fun h' tk' F' N' => wpAny_truthy_bool (ret h' tk' F' N')


/-- the four numbers of a section's dict -/
noncomputable def intOf (e : DictEntry) : Int := match e.val with | .int n _ => n | _ => 0
noncomputable def quadOf (o : Obj) : Q4 := match o.data with
  | .dict es _ => (intOf (es.toList.getD 2 default), intOf (es.toList.getD 3 default), intOf (es.toList.getD 0 default), intOf (es.toList.getD 1 default))
  | _ => (0, 0, 0, 0)
/-- one object is one section -/
theorem SecAt.inj {h : Heap} {led : List (Addr × Obj)} {v : Value} {q q' : Q4} (N : News h₀ L h led) (x : SecAt led v q) (y : SecAt led v q') : q = q' := by
  obtain ⟨a, d, hs, ks, t1, t2, t3, t4, rid, e, m1, m2⟩ := x
  obtain ⟨a', d', hs', ks', u1, u2, u3, u4, rid', e', n1, n2⟩ := y
  cases e.symm.trans e'
  cases Option.some.inj (congrArg Obj.dict (Option.some.inj ((N _ m1).1.symm.trans (N _ n1).1)))
  exact congrArg quadOf (Option.some.inj ((N _ m2).1.symm.trans (N _ n2).1))

theorem remove_loop {a ls : Addr} {j ns : Nat} {secs : List Value} {qs : List Q4} {R : Result → Shared → Prop}
    (B : Below A₀ base outer h₀) (X : (Mine.K w.params).In h₀) (T : Top p loose mean mg mb h₀) (hf : env.frame = some L) (hk : env.scope.kind = .function) (hd : dp + 4 < recursionLimit) (hu : un + 80 < cLine)
    (hn : ∀ q ∈ news, q.1 ≠ ls) (hq : SecsIn news secs qs) (hnd : ∀ (i j : Nat) (q q' : Q4), qs[i]? = some q → qs[j]? = some q' → i ≠ j → q ≠ q') (hj : secs[j]? = some (.ref a)) (hsz : secs.length ≤ 900)
    (ret : ∀ ns' h' tk', Fr h₀ L h' m → News h₀ L h' ((ls, listOf (secs.eraseIdx j).toArray ns') :: news) → R (.ok (.ret .none)) { s with heap := h', toks := tk' }) :
    ∀ (k i : Nat) (h₁ : Heap) (tk₁ : Tok), j - i = k → i ≤ j → Fr h₀ L h₁ m → News h₀ L h₁ ((ls, listOf secs.toArray ns) :: news) →
      codeAny (model PW w) (AR dp un gd env outer) (.builtin "list.remove.loop" ⟨[.ref ls, .ref a, rawInt i], []⟩) R { s with heap := h₁, toks := tk₁ } := by
  have hjl : j < secs.length := (List.getElem?_eq_some_iff.mp hj).1
  have hqj : ∃ q, qs[j]? = some q := ⟨qs[j]'(hq.length ▸ hjl), by simp⟩
  obtain ⟨qj, hqj⟩ := hqj
  obtain ⟨a', dj, hsj, ksj, v1, v2, v3, v4, ridj, ej, mj1, mj2⟩ := hq.get hj hqj
  cases ej
  intro k
  induction k with
  | zero =>
    intro i h₁ tk₁ hki hi F N
    have hij : i = j := by omega
    subst hij
    refine codeAny_builtin PySem.MeetsSeq.entry_remove_loop ?_
    rw [Around.under_plainId PySem.MeetsSeq.plain_remove_loop _]
    show wpAny _ (AR dp (un + 1) gd env outer) (Builtin.List.listItems (.ref ls) >>= _) _ _ _
    unfold Builtin.List.listItems
    have nl := N _ (.head _)
    refine wpAny_bind (wpAny_bind (wpAny_seqItems nl.1 rfl (wpAny_pure ?_)))
    have hi' : (secs.toArray)[((i : Nat) : Int).toNat]? = some (.ref a) := by simpa using hj
    rw [hi']
    refine wpAny_bind (eqb_same ?_)
    rw [if_pos rfl]
    refine wpAny_bind ?_
    show wpAny _ _ (updateSeq ls _) _ _ _
    refine wpAny_updateSeq nl.1 rfl (wpAny_pure ?_) (by show secs.toArray.size ≤ sizeLine; rw [List.size_toArray, sizeLine_eq]; omega) (Nat.le_trans (PySem.MeetsSeq.size_erased _ _) (by rw [List.size_toArray, sizeLine_eq]; omega))
    have hup := get?_update_seq nl.1 (fun xs => xs.eraseIdxIfInBounds ((i : Nat) : Int).toNat)
    have hs : Heap.SameBut ls h₁ (h₁.update ls (Obj.mapSeq fun xs => xs.eraseIdxIfInBounds ((i : Nat) : Int).toNat)) := Heap.SameBut.update ..
    have eE : secs.toArray.eraseIdxIfInBounds ((i : Nat) : Int).toNat = (secs.eraseIdx i).toArray := by simp [hjl]
    obtain ⟨ns', hup'⟩ : ∃ ns', (h₁.update ls (Obj.mapSeq fun xs => xs.eraseIdxIfInBounds ((i : Nat) : Int).toNat)).get? ls = some (listOf (secs.eraseIdx i).toArray ns') := ⟨_, by rw [← eE]; exact hup⟩
    refine ret ns' _ tk₁ (F.change hs nl.2.1 nl.2.2) fun q hq => ?_
    rcases List.mem_cons.mp hq with rfl | hq
    · exact ⟨hup', nl.2⟩
    · have nq := N q (.tail _ hq)
      exact ⟨(hs.2 _ (hn q hq)).trans nq.1, nq.2⟩
  | succ k ih =>
    intro i h₁ tk₁ hki hi F N
    have hlt : i < j := by omega
    have hil : i < secs.length := by omega
    obtain ⟨vi, hvi⟩ : ∃ v, secs[i]? = some v := ⟨secs[i], by simp⟩
    obtain ⟨qi, hqi⟩ : ∃ q, qs[i]? = some q := ⟨qs[i]'(hq.length ▸ hil), by simp⟩
    have hat := hq.get hvi hqi
    obtain ⟨ai, di, hsi, ksi, u1, u2, u3, u4, ridi, rfl, mi1, mi2⟩ := id hat
    have hne := hnd i j qi qj hqi hqj (by omega)
    have Nt : News h₀ L h₁ news := fun q hq => N q (.tail _ hq)
    have haa : ai ≠ a := fun e => by
      subst e
      exact hne (SecAt.inj Nt hat (hq.get hj hqj))
    refine codeAny_builtin PySem.MeetsSeq.entry_remove_loop ?_
    rw [Around.under_plainId PySem.MeetsSeq.plain_remove_loop _]
    show wpAny _ (AR dp (un + 1) gd env outer) (Builtin.List.listItems (.ref ls) >>= _) _ _ _
    unfold Builtin.List.listItems
    have nl := N _ (.head _)
    refine wpAny_bind (wpAny_bind (wpAny_seqItems nl.1 rfl (wpAny_pure ?_)))
    have hi' : (secs.toArray)[((i : Nat) : Int).toNat]? = some (.ref ai) := by simpa using hvi
    rw [hi']
    refine wpAny_bind (eqb_ne ⟨B, F, X, T, hf, hk, by omega, by omega⟩ N (.tail _ mi1) (.tail _ mi2) (.tail _ mj1) (.tail _ mj2) (fun e => hne ?_) haa fun h' tk' F' N' => ?_)
    · obtain ⟨q1, q2, q3, q4⟩ := qi
      obtain ⟨r1, r2, r3, r4⟩ := qj
      simp only at e
      simp [e.1, e.2.1, e.2.2.1, e.2.2.2]
    · have hc : ((i : Int) + 1) = ((i + 1 : Nat) : Int) := by push_cast; rfl
      rw [if_neg (by simp)]
      show wpAny _ _ (again (.builtin "list.remove.loop" ⟨[.ref ls, .ref a, rawInt ((i : Int) + 1)], []⟩)) _ _ _
      rw [hc]
      exact wpAny_pure ⟨plainId_quiet PySem.MeetsSeq.plain_remove_loop _, ih (i + 1) h' tk' (by omega) (by omega) F' N'⟩

theorem remove_sec {Q : Value → Shared → Prop} {a ls : Addr} {j ns : Nat} {secs : List Value} {qs : List Q4} (Cc : Cx 5 w dp un env outer A₀ base h₀ L m p loose mean mg mb s.heap) (N : News h₀ L s.heap ((ls, listOf secs.toArray ns) :: news))
    (hn : ∀ q ∈ news, q.1 ≠ ls) (hq : SecsIn news secs qs) (hnd : ∀ (i j : Nat) (q q' : Q4), qs[i]? = some q → qs[j]? = some q' → i ≠ j → q ≠ q') (hj : secs[j]? = some (.ref a)) (hsz : secs.length ≤ 900)
    (ret : ∀ ns' h' tk', Fr h₀ L h' m → News h₀ L h' ((ls, listOf (secs.eraseIdx j).toArray ns') :: news) → Q .none { s with heap := h', toks := tk' }) :
    wpAny (model PW w) (AR dp un gd env outer) (call (.builtin "list.remove") [.ref ls, .ref a]) Q E s := by
  obtain ⟨B, F, X, T, hf, hk, hdp, hun⟩ := Cc
  refine call_meetsIn PySem.F.slot_list_remove ⟨_, (N _ (.head _)).1, rfl⟩ PySem.F.entry_list_remove (PySem.F.args_list_remove_2 _ _) (S := fun A R s₁ => A = AR dp un gd env outer ∧ s₁ = s ∧ R = wants Q E) (fun A R s₁ h => ?_) ⟨rfl, rfl, rfl⟩
  obtain ⟨rfl, rfl, rfl⟩ := h
  show wpAny _ (AR dp un gd env outer).in1 (again (.builtin "list.remove.loop" ⟨[.ref ls, .ref a, rawInt ((0 : Nat) : Int)], []⟩)) _ _ _
  exact wpAny_pure ⟨plainId_quiet PySem.MeetsSeq.plain_remove_loop _, remove_loop (s := s₁) B X T hf hk (by omega) (by omega) hn hq hnd hj hsz (fun ns' h' tk' F' N' => ret ns' h' tk' F' N') _ 0 s₁.heap s₁.toks rfl (Nat.zero_le _) F N⟩
end
end Mine
namespace Mine
/-- a call at which a walk is to wait -/
structure Hold (P : Prop) : Prop where
  get : P
theorem hold_select {M : Model} {A : Around} {Q E : Value → Shared → Prop} {s : Shared} {args : List Value} (h : Hold (wpAny M A (call (.ref 365) args) Q E s)) : wpAny M A (call (.ref 365) args) Q E s := h.get
theorem hold_split {M : Model} {A : Around} {Q E : Value → Shared → Prop} {s : Shared} {C : Addr} {args : List Value} (h : Hold (wpAny M A (call (.ref (splitFn C)) args) Q E s)) : wpAny M A (call (.ref (splitFn C)) args) Q E s := h.get
theorem hold_remove {M : Model} {A : Around} {Q E : Value → Shared → Prop} {s : Shared} {args : List Value} (h : Hold (wpAny M A (call (.builtin "list.remove") args) Q E s)) : wpAny M A (call (.builtin "list.remove") args) Q E s := h.get
end Mine
local macro_rules | `(tactic| k_is) => `(tactic| with_reducible first | exact Mine.bx_msplit (by assumption) | exact Mine.split_isFn (by assumption) | exact Mine.split_keep (by assumption))
local macro_rules | `(tactic| walk_at "call ref") => Mine.sRef "Mine.hold_select Mine.hold_split"
local macro_rules | `(tactic| walk_at "call builtin:list.remove") => Mine.sHold "Mine.hold_remove"
namespace Mine
section
variable {w : World} {dp un : Nat} {gd : Option (List Code)} {env : Env} {A₀ : Around} {base h₀ : Heap} {L : Addr} {m : Str → Option Value} {p : Program} {loose : List Str} {mean : ExcName → Option Value} {mg mb : Str → Option Value} {news : List (Addr × Obj)} {s : Shared} {Q E : Value → Shared → Prop}
theorem turnNil {g g' h : Heap} {led : List (Addr × Obj)} (T : KtsTurn (([] : List Env).filterMap (·.frame)) g g') (F : Fr g' L h m) (N : News g' L h led) : Fr g L h m ∧ News g L h led :=
  ⟨⟨F.ns, fun b o e => F.keep b o (T.other b o e (fun hm => nomatch hm)), by rw [← T.size]; exact F.above⟩, fun q hq => ⟨(N q hq).1, (N q hq).2.1, by
    cases e : g.get? q.1 with
    | none => rfl
    | some o =>
      have := T.other _ o e (fun hm => nomatch hm)
      rw [(N q hq).2.2] at this; cases this⟩⟩
theorem fitness_any {C b db ls lr sf : Addr} {Wb Hb : Value} {rotb : Bool} {hb kb : _} {wi hi : Int} {t5 t6 : Tok} {secs : List Value} {qs : List Q4} {ns : Nat} {ps : Array Value}
    (hC : C ∈ BX) (Cc : Cx 12 w dp un env [] A₀ base h₀ L m p loose mean mg mb s.heap) (CH : CodeHd base 364 360) (XB : (Mine.K w.params).In base) (TB : Top p loose mean mg mb base)
    (N : News h₀ L s.heap ((ls, listOf secs.toArray ns) :: (360, tabObj ps) :: news)) (hsz : secs.length ≤ 900) (hn : ∀ p ∈ news, p.1 ≠ ls) (hn2 : ∀ p ∈ news, p.1 ≠ 360) (hne : ls ≠ 360) (hT : TabOk ps news)
    (h1 : (b, instObj C db) ∈ news) (h2 : (db, dictOf (boxDict Wb Hb (.bool rotb) lr sf ls hb kb) 8) ∈ news) (hq : SecsIn news secs qs)
    (hqs : ∀ q ∈ qs, 0 ≤ q.2.2.1 ∧ q.2.2.1 < bigI ∧ 0 ≤ q.2.2.2 ∧ q.2.2.2 < bigI) (hw : 0 < wi) (hh : 0 < hi) (hab : AllBare s.gens)
    (retS : ∀ j n fl t h' tk' gs' d' ps' own, SelOk (choiceOf C) qs wi hi rotb j n fl → AllBare gs' → Fr h₀ L h' m → News h₀ L h' ((ls, listOf secs.toArray ns) :: (360, tabObj ps') :: (own ++ news)) →
      (∀ q ∈ own, ∀ r ∈ (ls, listOf secs.toArray ns) :: (360, tabObj ps) :: news, @LT.lt Nat _ r.1 q.1) → TabOk ps' (own ++ news) → Q (.int n t) { s with heap := h', gens := gs', drawn := d', toks := tk' })
    (retN : ∀ h' tk' gs' d' ps' own, SelNone (choiceOf C) qs wi hi rotb → AllBare gs' → Fr h₀ L h' m → News h₀ L h' ((ls, listOf secs.toArray ns) :: (360, tabObj ps') :: (own ++ news)) →
      (∀ q ∈ own, ∀ r ∈ (ls, listOf secs.toArray ns) :: (360, tabObj ps) :: news, @LT.lt Nat _ r.1 q.1) → TabOk ps' (own ++ news) → Q .none { s with heap := h', gens := gs', drawn := d', toks := tk' }) :
    wpAny (model PW w) (AR dp un gd env []) (call (.ref 380) [.ref b, .int wi t5, .int hi t6]) Q E s := by
  obtain ⟨B, F, X, T, hf, hk, hdp, hun⟩ := Cc
  refine wpAny_call ?_
  k_dflt kts_go
  k_steps
  rename_i g₁ L₁ h₁ FG₁ F₁ N₁ B₁ X₁ T₁
  refine ⟨select_any hC ⟨B₁, F₁, X₁, T₁, rfl, rfl, by k_room, by k_units⟩ CH XB TB N₁ hsz hn hn2 hne hT h1 h2 hq hqs hw hh hab ?_ ?_⟩
  · intro j n fl v t h' tk' gs' d' ps' own hj hso hab' F' N' ho ht hT'
    obtain ⟨q, hqj, hfit⟩ := hso.fits
    have hqq := hqs q (List.mem_of_getElem? hqj)
    obtain ⟨a, d, hs, ks, s1, s2, s3, s4, rid, rfl, n1, n2⟩ := hq.get hj hqj
    have w1 := List.mem_append_right own h1
    have w2 := List.mem_append_right own h2
    have w3 := List.mem_append_right own n1
    have w4 := List.mem_append_right own n2
    clear F₁ N₁ N F
    cases fl
    all_goals
      k_steps
      all_goals first
        | (rename fitV _ _ _ _ _ = none => hz; exact absurd (hz.symm.trans hfit) (by simp))
        | (rename fitV _ _ _ _ _ = some _ => hz
           obtain rfl : _ = n := Option.some.inj (hz.symm.trans hfit)
           rename Fr _ _ _ _ => Fz
           rename News _ _ _ _ => Nz
           obtain ⟨F₀, oC, _, N₀⟩ := unbase FG₁ Fz Nz
           exact retS _ _ _ _ _ _ _ _ _ own hso hab' F₀ (cb_drop N₀ fun q hq => .tail _ (.tail _ hq)) ho hT')
  · intro t h' tk' gs' d' ps' own h₀' hsn hab' Tu B' F' N' ho ht hT'
    clear F₁ N₁ N F
    have X' := XB.keeps B'.stays
    have T' := TB.keeps B'.stays
    k_steps
    rename Fr _ _ _ _ => Fz
    rename News _ _ _ _ => Nz
    obtain ⟨h₂, T₂, F₂, _, N₂⟩ := leaveT B FG₁ hf Tu Fz Nz
    obtain ⟨F₀, N₀⟩ := turnNil T₂ F₂ N₂
    exact retN _ _ _ _ _ own hsn hab' F₀ (cb_drop N₀ fun q hq => .tail _ hq) ho hT'
end
end Mine
namespace Mine
theorem fitV_some {k : Nat} {W H w h n : Int} (e : fitV k W H w h = some n) : w ≤ W ∧ h ≤ H := by
  unfold fitV at e
  split at e
  all_goals
    first | unfold fitBssf at e | unfold fitBlsf at e | unfold fitBaf at e
    split at e
    · cases e
    · omega
theorem permA1 {α : Type} {t l tb r : α} {own nw : List α} : ∀ q ∈ l :: t :: tb :: (own ++ r :: nw), q ∈ t :: l :: tb :: (own ++ r :: nw) := perm_of [[t], [l], [tb], own, [r]] [1, 0, 2, 3, 4] nw
theorem permA1T {α : Type} {x t l tb r : α} {own nw : List α} : ∀ q ∈ l :: t :: tb :: (own ++ r :: nw), q ∈ x :: t :: l :: tb :: (own ++ r :: nw) := perm_of [[x], [t], [l], [tb], own, [r]] [2, 1, 3, 4, 5] nw
theorem permA2 {α : Type} {l r t tb : α} {own nw nu : List α} : ∀ q ∈ l :: r :: (nu ++ (t :: tb :: (own ++ nw))), q ∈ l :: (nu ++ (t :: tb :: (own ++ r :: nw))) := perm_of [[l], nu, [t], [tb], own, [r]] [0, 5, 1, 2, 3, 4] nw
theorem permA4 {α : Type} {t l tb r : α} {own nw : List α} : ∀ q ∈ l :: tb :: r :: (own ++ nw), q ∈ t :: l :: tb :: (own ++ r :: nw) := perm_of [[t], [l], [tb], own, [r]] [1, 2, 4, 3] nw
theorem TabOk.drop {ps : Array Value} {led led' : List (Addr × Obj)} {x : Addr × Obj} (h : TabOk ps led) (hx : ∀ vs, x.2.data ≠ .fields vs) (hs : ∀ q ∈ led, q = x ∨ q ∈ led') : TabOk ps led' :=
  ⟨h.ok, h.lam.imp id fun ⟨c', oc, vs, t, a, b, c, d⟩ => ⟨c', oc, vs, t, a, (hs _ b).resolve_left fun e => hx vs (by rw [← e]; exact c), c, d⟩⟩
theorem led_pack {h₀ h : Heap} {L : Addr} {l r x tb : Addr × Obj} {nw own news : List (Addr × Obj)} (N : News h₀ L h (l :: r :: (nw ++ x :: tb :: (own ++ news)))) (hlr : ∀ p ∈ nw ++ x :: tb :: (own ++ news), p.1 ≠ r.1) :
    ∃ led, News h₀ L h (l :: r :: led) ∧ (∀ p ∈ led, p.1 ≠ r.1) ∧ (∀ q ∈ news, q ∈ led) ∧ tb ∈ led ∧ (∀ y d l' r' : Addr × Obj, ∀ q ∈ l' :: tb :: r' :: ((y :: d :: (nw ++ x :: own)) ++ news), q ∈ y :: d :: l' :: r' :: led) :=
  ⟨_, N, hlr, fun q hq => List.mem_append_right _ (.tail _ (.tail _ (List.mem_append_right _ hq))), List.mem_append_right _ (.tail _ (.head _)), fun y d l' r' q hq => by
    simp only [List.mem_cons, List.mem_append, List.cons_append] at hq ⊢; grind⟩
noncomputable def aBody : List Stmt := match inAt 7 7 with | .FunctionDef _ _ b _ _ _ _ _ _ _ => b | _ => []
noncomputable def aScope : Scope := match inAt 7 7 with | .FunctionDef _ _ _ _ _ _ s _ _ _ => s | _ => default
noncomputable def aAt (i : Nat) : Stmt := aBody.getD i (.Pass ⟨0, 0, 0, 0⟩)
noncomputable abbrev AE (L : Addr) : Env := envOf (Str.ofString "Guillotine.add_rect") aScope L 373 (.ref 372)
theorem hold_rot {M : Model} {A : Around} {E : Value → Shared → Prop} {s : Shared} {Q : Flow → Shared → Prop} {env : Env} {pn p : Pos} {b e : List Stmt} (h : Hold (wpAny M A (exec (.If (.Name (Str.ofString "rotated") pn) b e p) env) Q E s)) : wpAny M A (exec (.If (.Name (Str.ofString "rotated") pn) b e p) env) Q E s := h.get
section
variable {w : World} {dp un : Nat} {gd : Option (List Code)} {env : Env} {outer : List Env} {A₀ : Around} {base h₀ : Heap} {L : Addr} {m : Str → Option Value} {p : Program} {loose : List Str} {mean : ExcName → Option Value} {mg mb : Str → Option Value} {news : List (Addr × Obj)} {s : Shared} {Q E : Value → Shared → Prop}
/-- if rotated: width, height = (height, width) -/
theorem swap_if {fl : Bool} {wi hi : Int} {t5 t6 : Tok} {Q : Flow → Shared → Prop} (Cc : Cx 3 w dp un (AE L) outer A₀ base h₀ L m p loose mean mg mb s.heap) (N : News h₀ L s.heap news)
    (m1 : m (Str.ofString "rotated") = some (.bool fl)) (m2 : m (Str.ofString "width") = some (.int wi t5)) (m3 : m (Str.ofString "height") = some (.int hi t6))
    (ret : ∀ m' t1 t2 h' tk', m' (Str.ofString "width") = some (.int (if fl then hi else wi) t1) → m' (Str.ofString "height") = some (.int (if fl then wi else hi) t2) → (∀ y, y ≠ Str.ofString "width" → y ≠ Str.ofString "height" → m' y = m y) → Fr h₀ L h' m' → News h₀ L h' news → Q .next { s with heap := h', toks := tk' }) :
    wpAny (model PW w) (AR dp un gd (AE L) outer) (exec (aAt 3) (AE L)) Q E s := by
  obtain ⟨B, F, X, T, -, -, hdp, hun⟩ := Cc
  have q0 : (aAt 3) = (aAt 3) := rfl
  (conv at q0 => rhs; whnf)
  rw [q0]
  clear q0
  unfold AE at *
  have q9 : aScope = aScope := rfl
  (conv at q9 => rhs; whnf)
  rw [q9]
  clear q9
  cases fl with
  | false =>
    k_steps
    exact ret m _ _ _ _ m2 m3 (fun _ _ _ => rfl) (by k_asm) (by k_asm)
  | true =>
    k_steps
    rename Fr _ _ _ _ => Fz
    rename News _ _ _ _ => Nz
    exact ret _ _ _ _ _ (if_pos rfl) ((if_neg (by decide)).trans (if_pos rfl)) (fun y h1 h2 => (if_neg h1).trans (if_neg h2)) Fz (cb_drop Nz fun _ hp => .tail _ hp)
end
local macro_rules | `(tactic| walk_at "eval Name") => `(tactic| (k_here; k_dflt (refine' Mine.nameG_L (hv := by first | with_reducible assumption | exact if_pos rfl | exact (if_neg (by decide)).trans (by with_reducible assumption) | exact (if_neg (by decide)).trans (if_pos rfl) | exact (if_neg (by decide)).trans ((if_neg (by decide)).trans (by with_reducible assumption))) (h := ?_); k_whole)))
local macro_rules | `(tactic| walk_at "exec If") => Mine.sHold "Mine.hold_rot"
theorem oF {h₀ h : Heap} {L : Addr} {news : List (Addr × Obj)} (N : News h₀ L h news) : News h₀ L h news := N
section
variable {w : World} {dp un : Nat} {gd : Option (List Code)} {env : Env} {A₀ : Around} {base h₀ : Heap} {L : Addr} {m : Str → Option Value} {p : Program} {loose : List Str} {mean : ExcName → Option Value} {mg mb : Str → Option Value} {news : List (Addr × Obj)} {s : Shared} {Q E : Value → Shared → Prop}
theorem add_body {C b db ls lr sf : Addr} {Wb Hb rid : Value} {rotb : Bool} {hb kb : _} {wi hi : Int} {t5 t6 : Tok} {secs rects : List Value} {qs : List Q4} {ns nr : Nat} {ps : Array Value} {outer : List Env} {Q : Flow → Shared → Prop}
    (hC : C ∈ BX) (Cc : Cx 15 w dp un (AE L) outer A₀ base h₀ L m p loose mean mg mb s.heap) (CH : CodeHd base 364 360) (XB : (Mine.K w.params).In base) (TB : Top p loose mean mg mb base)
    (N : News h₀ L s.heap ((ls, listOf secs.toArray ns) :: (360, tabObj ps) :: (lr, listOf rects.toArray nr) :: news)) (hsz : secs.length ≤ 900) (hsr : rects.length ≤ 900) (hn : ∀ p ∈ (lr, listOf rects.toArray nr) :: news, p.1 ≠ ls) (hn2 : ∀ p ∈ (lr, listOf rects.toArray nr) :: news, p.1 ≠ 360) (hn3 : ∀ p ∈ news, p.1 ≠ lr) (hne : ls ≠ 360) (hT : TabOk ps news)
    (h1 : (b, instObj C db) ∈ news) (h2 : (db, dictOf (boxDict Wb Hb (.bool rotb) lr sf ls hb kb) 8) ∈ news) (hq : SecsIn news secs qs)
    (hqs : ∀ q ∈ qs, 0 ≤ q.2.2.1 ∧ q.2.2.1 < bigI ∧ 0 ≤ q.2.2.2 ∧ q.2.2.2 < bigI) (hw : 0 < wi) (hh : 0 < hi) (hab : AllBare s.gens)
    (hnd : ∀ (i j : Nat) (q q' : Q4), qs[i]? = some q → qs[j]? = some q' → i ≠ j → q ≠ q')
    (m1 : m (Str.ofString "self") = some (.ref b)) (m2 : m (Str.ofString "width") = some (.int wi t5)) (m3 : m (Str.ofString "height") = some (.int hi t6)) (m4 : m (Str.ofString "rid") = some rid)
    (retS : ∀ j n fl q r' d' hs ks t1 t2 t3 t4 refs ns' nr' m' h' tk' gs' dr' ps' own, qs[j]? = some q → SelOk (choiceOf C) qs wi hi rotb j n fl → AllBare gs' → Fr h₀ L h' m' →
      News h₀ L h' ((ls, listOf (secs.eraseIdx j ++ refs).toArray ns') :: (360, tabObj ps') :: (lr, listOf (rects ++ [Value.ref r']).toArray nr') :: (own ++ news)) →
      (r', instObj 203 d') ∈ own → (d', dictOf (secDict (.int (if fl then hi else wi) t1) (.int (if fl then wi else hi) t2) (.int q.1 t3) (.int q.2.1 t4) rid hs ks) 5) ∈ own →
      SecsIn own refs (cutBy (splitOf C) q.1 q.2.1 q.2.2.1 q.2.2.2 (if fl then hi else wi) (if fl then wi else hi)) →
      (∀ q ∈ own, ∀ r ∈ (ls, listOf secs.toArray ns) :: (360, tabObj ps) :: (lr, listOf rects.toArray nr) :: news, @LT.lt Nat _ r.1 q.1) → TabOk ps' (own ++ news) → Q (.ret (.ref r')) { s with heap := h', gens := gs', drawn := dr', toks := tk' })
    (retN : ∀ m' h' tk' gs' dr' ps' own h₀', SelNone (choiceOf C) qs wi hi rotb → AllBare gs' → KtsTurn (outer.filterMap (·.frame)) h₀ h₀' → Below A₀ base outer h₀' → Fr h₀' L h' m' → News h₀' L h' ((ls, listOf secs.toArray ns) :: (360, tabObj ps') :: (lr, listOf rects.toArray nr) :: (own ++ news)) →
      (∀ q ∈ own, ∀ r ∈ (ls, listOf secs.toArray ns) :: (360, tabObj ps) :: (lr, listOf rects.toArray nr) :: news, @LT.lt Nat _ r.1 q.1) → TabOk ps' (own ++ news) → Q (.ret .none) { s with heap := h', gens := gs', drawn := dr', toks := tk' }) :
    wpAny (model PW w) (AR dp un gd (AE L) outer) (execs aBody (AE L)) Q E s := by
  obtain ⟨B, F, X, T, hf, hk, hdp, hun⟩ := Cc
  have q0 : aBody = aBody := rfl
  (conv at q0 => rhs; whnf)
  rw [q0]
  clear q0
  unfold AE at *
  have q9 : aScope = aScope := rfl
  (conv at q9 => rhs; whnf)
  rw [q9]
  clear q9
  k_steps
  refine ⟨select_any hC ⟨B, F, X, T, rfl, rfl, by k_room, by k_units⟩ CH XB TB N hsz hn hn2 hne (hT.mono fun _ h => .tail _ h) (.tail _ h1) (.tail _ h2) (hq.mono fun _ h => .tail _ h) hqs hw hh hab ?_ ?_⟩
  · intro j n fl v t h' tk' gs' dr' ps' own hj hso hab' F' N' ho ht hT'
    obtain ⟨q, hqj, hfit⟩ := hso.fits
    have hqq := hqs q (List.mem_of_getElem? hqj)
    obtain ⟨a, d, hs, ks, s1, s2, s3, s4, rid', rfl, n1, n2⟩ := hq.get hj hqj
    have w1 := List.mem_append_right own (List.mem_cons_of_mem (lr, listOf rects.toArray nr) h1)
    have w2 := List.mem_append_right own (List.mem_cons_of_mem (lr, listOf rects.toArray nr) h2)
    have w3 := List.mem_append_right own (List.mem_cons_of_mem (lr, listOf rects.toArray nr) n1)
    have w4 := List.mem_append_right own (List.mem_cons_of_mem (lr, listOf rects.toArray nr) n2)
    have hls : ∀ p ∈ (t, tupO [.ref a, .bool fl]) :: (360, tabObj ps') :: (own ++ (lr, listOf rects.toArray nr) :: news), p.1 ≠ ls := fun p hp => by
      rcases List.mem_cons.mp hp with rfl | hp
      · exact Nat.ne_of_gt (ht _ (.head _))
      rcases List.mem_cons.mp hp with rfl | hp
      · exact Ne.symm hne
      rcases List.mem_append.mp hp with hp | hp
      · exact Nat.ne_of_gt (ho p hp _ (.head _))
      · exact hn p hp
    have hlr : ∀ p ∈ (t, tupO [.ref a, .bool fl]) :: (360, tabObj ps') :: (own ++ news), p.1 ≠ lr := fun p hp => by
      rcases List.mem_cons.mp hp with rfl | hp
      · exact Nat.ne_of_gt (ht (lr, listOf rects.toArray nr) (.tail _ (.tail _ (.head _))))
      rcases List.mem_cons.mp hp with rfl | hp
      · exact Ne.symm (hn2 (lr, listOf rects.toArray nr) (.head _))
      rcases List.mem_append.mp hp with hp | hp
      · exact Nat.ne_of_gt (ho p hp (lr, listOf rects.toArray nr) (.tail _ (.tail _ (.head _))))
      · exact hn3 p hp
    have hsec : SecsIn ((t, tupO [.ref a, .bool fl]) :: (360, tabObj ps') :: (own ++ (lr, listOf rects.toArray nr) :: news)) secs qs := hq.mono fun p hp => .tail _ (.tail _ (List.mem_append_right _ (.tail _ hp)))
    have hel : (secs.eraseIdx j).length ≤ 900 := Nat.le_trans (List.length_eraseIdx_le _ _) hsz
    clear N F
    have hft : fitV (choiceOf C) q.2.2.1 q.2.2.2 (if fl then hi else wi) (if fl then wi else hi) = some n := by cases fl <;> exact hfit
    have hfl := fitV_some hft
    have a0 : 0 < (if fl then hi else wi) := by cases fl <;> assumption
    have b0 : 0 < (if fl then wi else hi) := by cases fl <;> assumption
    k_steps
    rename Fr _ _ _ _ => Fa
    rename News _ _ _ _ => Na
    refine Hold.mk (swap_if (fl := fl) (wi := wi) (hi := hi) (t5 := t5) (t6 := t6) ⟨B, Fa, X, T, rfl, rfl, by k_room, by k_units⟩ Na (by first | with_reducible assumption | exact if_pos rfl | exact (if_neg (by decide)).trans (by with_reducible assumption) | exact (if_neg (by decide)).trans (if_pos rfl) | exact (if_neg (by decide)).trans ((if_neg (by decide)).trans (by with_reducible assumption))) (by first | with_reducible assumption | exact if_pos rfl | exact (if_neg (by decide)).trans (by with_reducible assumption) | exact (if_neg (by decide)).trans (if_pos rfl) | exact (if_neg (by decide)).trans ((if_neg (by decide)).trans (by with_reducible assumption))) (by first | with_reducible assumption | exact if_pos rfl | exact (if_neg (by decide)).trans (by with_reducible assumption) | exact (if_neg (by decide)).trans (if_pos rfl) | exact (if_neg (by decide)).trans ((if_neg (by decide)).trans (by with_reducible assumption))) fun m2 u1 u2 hx2 tkx2 c1 c2 c3 Fx2 Nx2 => ?_)
    have c4 : m2 (Str.ofString "self") = some (.ref b) := (c3 _ (by decide) (by decide)).trans (by first | with_reducible assumption | exact if_pos rfl | exact (if_neg (by decide)).trans (by with_reducible assumption) | exact (if_neg (by decide)).trans (if_pos rfl) | exact (if_neg (by decide)).trans ((if_neg (by decide)).trans (by with_reducible assumption)))
    have c5 : m2 (Str.ofString "section") = some (.ref a) := (c3 _ (by decide) (by decide)).trans (by first | with_reducible assumption | exact if_pos rfl | exact (if_neg (by decide)).trans (by with_reducible assumption) | exact (if_neg (by decide)).trans (if_pos rfl) | exact (if_neg (by decide)).trans ((if_neg (by decide)).trans (by with_reducible assumption)))
    have c6 : m2 (Str.ofString "rid") = some rid := (c3 _ (by decide) (by decide)).trans (by first | with_reducible assumption | exact if_pos rfl | exact (if_neg (by decide)).trans (by with_reducible assumption) | exact (if_neg (by decide)).trans (if_pos rfl) | exact (if_neg (by decide)).trans ((if_neg (by decide)).trans (by with_reducible assumption)))
    clear Fa Na c3
    have R := retS j n fl q
    clear retS
    generalize (if fl then hi else wi) = aw at hfl a0 c1 R
    generalize (if fl then wi else hi) = ah at hfl b0 c2 R
    · k_steps
      rename Fr _ _ _ _ => Fa
      rename News _ _ _ _ => Na
      refine ⟨remove_sec ⟨B, Fa, X, T, rfl, rfl, by k_room, by k_units⟩ (by first | exact cb_drop Na permA1 | exact cb_drop Na permA1T) hls hsec hnd hj hsz fun ns' h' tk' F' N' => ?_⟩
      clear Fa Na
      k_steps
      rename Fr _ _ _ _ => Fa
      rename News _ _ _ _ => Na
      refine ⟨split_any hC ⟨B, Fa, X, T, rfl, rfl, by k_room, by k_units⟩ Na hel hls hfl.1 hfl.2 a0 b0 hqq.2.1 hqq.2.2.2 (.tail _ (.tail _ w1)) (.tail _ (.tail _ w2)) (.tail _ (.tail _ w3)) (.tail _ (.tail _ w4)) fun nw refs ns2 h' tk' F' N' hgt hsc => ?_⟩
      clear Fa Na
      have N2 := cb_drop N' permA2
      have hlr2 : ∀ p ∈ nw ++ (t, tupO [.ref a, .bool _]) :: (360, tabObj ps') :: (own ++ news), p.1 ≠ lr := fun p hp => by
        rcases List.mem_append.mp hp with hp | hp
        · exact Nat.ne_of_gt (hgt p hp (lr, listOf rects.toArray nr) (.tail _ (.tail _ (.tail _ (List.mem_append_right _ (.head _))))))
        · exact hlr p hp
      have hne3 : @Ne Nat lr ls := hn (lr, listOf rects.toArray nr) (.head _)
      obtain ⟨led, N3, hlr3, hin, h360, hout⟩ := led_pack N2 hlr2
      have v1 := hin _ h1
      have v2 := hin _ h2
      have v3 := hin _ n1
      have v4 := hin _ n2
      clear N' N2
      k_steps
      rename Fr _ _ _ _ => Fz
      rename News _ _ _ _ => Nz
      rw [List.push_toArray] at Nz
      rename @LT.lt Nat _ _ _ => hdx
      rename ∀ p ∈ (ls, _) :: (lr, _) :: led, _ => hld
      have hup : ∀ r ∈ (ls, listOf secs.toArray ns) :: (360, tabObj ps) :: (lr, listOf rects.toArray nr) :: news, @LT.lt Nat _ r.1 _ := fun r hr => by
        rcases List.mem_cons.mp hr with rfl | hr
        · exact hld (ls, listOf (secs.eraseIdx j ++ refs).toArray ns2) (.head _)
        rcases List.mem_cons.mp hr with rfl | hr
        · exact hld (360, tabObj ps') (.tail _ (.tail _ h360))
        rcases List.mem_cons.mp hr with rfl | hr
        · exact hld (lr, listOf rects.toArray nr) (.tail _ (.head _))
        · exact hld r (.tail _ (.tail _ (hin _ hr)))
      refine R _ _ _ _ _ _ _ _ refs ns2 _ _ _ _ gs' dr' ps' _ hqj hso hab' Fz (cb_drop (oF Nz) (hout _ _ _ _)) (.head _) (.tail _ (.head _)) (hsc.mono fun q hq => .tail _ (.tail _ (List.mem_append_left _ hq))) (fun q hq r hr => ?_) (hT'.drop (x := (lr, listOf rects.toArray nr)) (fun vs e => nomatch e) fun q hq => ?_)
      · rcases List.mem_cons.mp hq with rfl | hq
        · exact Nat.lt_trans (hup r hr) hdx
        rcases List.mem_cons.mp hq with rfl | hq
        · exact hup r hr
        rcases List.mem_append.mp hq with hq | hq
        · rcases List.mem_cons.mp hr with rfl | hr
          · exact hgt q hq (ls, listOf (secs.eraseIdx j).toArray _) (.head _)
          rcases List.mem_cons.mp hr with rfl | hr
          · exact hgt q hq (360, tabObj ps') (.tail _ (.tail _ (.head _)))
          · exact hgt q hq r (.tail _ (.tail _ (.tail _ (List.mem_append_right _ hr))))
        rcases List.mem_cons.mp hq with rfl | hq
        · exact ht r hr
        · exact ho q hq r hr
      · rcases List.mem_append.mp hq with hq | hq
        · exact .inr (List.mem_append_left _ (.tail _ (.tail _ (List.mem_append_right _ (.tail _ hq)))))
        rcases List.mem_cons.mp hq with rfl | hq
        · exact .inl rfl
        · exact .inr (List.mem_append_right _ hq)
  · intro t h' tk' gs' dr' ps' own h₀' hsn hab' Tu B' F' N' ho ht hT'
    clear N F
    have X' := XB.keeps B'.stays
    have T' := TB.keeps B'.stays
    k_steps
    rename Fr _ _ _ _ => Fz
    rename News _ _ _ _ => Nz
    exact retN _ _ _ gs' dr' ps' own h₀' hsn hab' Tu B' Fz (cb_drop Nz permA4) ho (hT'.drop (x := (lr, listOf rects.toArray nr)) (fun vs e => nomatch e) fun q hq => by
      rcases List.mem_append.mp hq with hq | hq
      · exact .inr (List.mem_append_left _ hq)
      rcases List.mem_cons.mp hq with rfl | hq
      · exact .inl rfl
      · exact .inr (List.mem_append_right _ hq))
theorem add_any {C b db ls lr sf : Addr} {Wb Hb rid : Value} {rotb : Bool} {hb kb : _} {wi hi : Int} {t5 t6 : Tok} {secs rects : List Value} {qs : List Q4} {ns nr : Nat} {ps : Array Value}
    (hC : C ∈ BX) (Cc : Cx 16 w dp un env [] A₀ base h₀ L m p loose mean mg mb s.heap) (CH : CodeHd base 364 360) (XB : (Mine.K w.params).In base) (TB : Top p loose mean mg mb base)
    (N : News h₀ L s.heap ((ls, listOf secs.toArray ns) :: (360, tabObj ps) :: (lr, listOf rects.toArray nr) :: news)) (hsz : secs.length ≤ 900) (hsr : rects.length ≤ 900) (hn : ∀ p ∈ (lr, listOf rects.toArray nr) :: news, p.1 ≠ ls) (hn2 : ∀ p ∈ (lr, listOf rects.toArray nr) :: news, p.1 ≠ 360) (hn3 : ∀ p ∈ news, p.1 ≠ lr) (hne : ls ≠ 360) (hT : TabOk ps news)
    (h1 : (b, instObj C db) ∈ news) (h2 : (db, dictOf (boxDict Wb Hb (.bool rotb) lr sf ls hb kb) 8) ∈ news) (hq : SecsIn news secs qs)
    (hqs : ∀ q ∈ qs, 0 ≤ q.2.2.1 ∧ q.2.2.1 < bigI ∧ 0 ≤ q.2.2.2 ∧ q.2.2.2 < bigI) (hw : 0 < wi) (hh : 0 < hi) (hab : AllBare s.gens)
    (hnd : ∀ (i j : Nat) (q q' : Q4), qs[i]? = some q → qs[j]? = some q' → i ≠ j → q ≠ q')
    (retS : ∀ j n fl q r' d' hs ks t1 t2 t3 t4 refs ns' nr' h' tk' gs' dr' ps' own, qs[j]? = some q → SelOk (choiceOf C) qs wi hi rotb j n fl → AllBare gs' → Fr h₀ L h' m →
      News h₀ L h' ((ls, listOf (secs.eraseIdx j ++ refs).toArray ns') :: (360, tabObj ps') :: (lr, listOf (rects ++ [Value.ref r']).toArray nr') :: (own ++ news)) →
      (r', instObj 203 d') ∈ own → (d', dictOf (secDict (.int (if fl then hi else wi) t1) (.int (if fl then wi else hi) t2) (.int q.1 t3) (.int q.2.1 t4) rid hs ks) 5) ∈ own →
      SecsIn own refs (cutBy (splitOf C) q.1 q.2.1 q.2.2.1 q.2.2.2 (if fl then hi else wi) (if fl then wi else hi)) →
      (∀ q ∈ own, ∀ r ∈ (ls, listOf secs.toArray ns) :: (360, tabObj ps) :: (lr, listOf rects.toArray nr) :: news, @LT.lt Nat _ r.1 q.1) → TabOk ps' (own ++ news) → Q (.ref r') { s with heap := h', gens := gs', drawn := dr', toks := tk' })
    (retN : ∀ h' tk' gs' dr' ps' own, SelNone (choiceOf C) qs wi hi rotb → AllBare gs' → Fr h₀ L h' m → News h₀ L h' ((ls, listOf secs.toArray ns) :: (360, tabObj ps') :: (lr, listOf rects.toArray nr) :: (own ++ news)) →
      (∀ q ∈ own, ∀ r ∈ (ls, listOf secs.toArray ns) :: (360, tabObj ps) :: (lr, listOf rects.toArray nr) :: news, @LT.lt Nat _ r.1 q.1) → TabOk ps' (own ++ news) → Q .none { s with heap := h', gens := gs', drawn := dr', toks := tk' }) :
    wpAny (model PW w) (AR dp un gd env []) (call (.ref 373) [.ref b, .int wi t5, .int hi t6, rid]) Q E s := by
  obtain ⟨B, F, X, T, hf, hk, hdp, hun⟩ := Cc
  refine wpAny_call ?_
  k_dflt kts_go
  rename_i g₁ L₁ h₁ FG₁ F₁ N₁ B₁ X₁ T₁
  refine add_body hC ⟨B₁, F₁, X₁, T₁, rfl, rfl, by k_room, by k_units⟩ CH XB TB N₁ hsz hsr hn hn2 hn3 hne hT h1 h2 hq hqs hw hh hab hnd (by rfl) (by rfl) (by rfl) (by rfl) ?_ ?_
  · intro j n fl q r' d' hs ks t1 t2 t3 t4 refs ns' nr' m' h' tk' gs' dr' ps' own hqj hS hab' F' N' n1 n2 hc ho hT'
    clear F₁ N₁ N F
    k_steps
    rename Fr _ _ _ _ => Fz
    rename News _ _ _ _ => Nz
    obtain ⟨F₀, oC, _, N₀⟩ := unbase FG₁ Fz Nz
    exact retS j n fl q r' d' hs ks t1 t2 t3 t4 refs ns' nr' _ _ gs' dr' ps' own hqj hS hab' F₀ (cb_drop N₀ fun _ => .tail _) n1 n2 hc ho hT'
  · intro m' h' tk' gs' dr' ps' own h₀' hsn hab' Tu B' F' N' ho hT'
    clear F₁ N₁ N F
    obtain ⟨h₂, T₂, F₂, _, N₂⟩ := leaveT B FG₁ hf Tu F' N'
    obtain ⟨F₀, N₀⟩ := turnNil T₂ F₂ N₂
    k_steps
    exact retN _ _ gs' dr' ps' own hsn hab' F₀ N₀ ho hT'
end
end Mine
namespace Mine
open PySem.W.X
section
variable {w : World} {dp un : Nat} {gd : Option (List Code)} {env : Env} {outer : List Env} {A₀ : Around} {base h₀ : Heap} {L : Addr} {m : Str → Option Value} {p : Program} {loose : List Str} {mean : ExcName → Option Value} {mg mb : Str → Option Value} {news : List (Addr × Obj)} {s : Shared} {Q E : Value → Shared → Prop}
variable {A : Around} {P : End → Shared → Prop}
/-- the body of a generator that hands on what it loops over -/
noncomputable abbrev yBody (x : Str) (px py pq pe pf : Pos) (iter : Expr) : List Stmt := [.For (.Name x px) iter [.Expr (.Yield (some (.Name x py)) pq) pe] [] pf]
noncomputable abbrev yLoop (x : Str) (px py pq pe : Pos) (I : Addr) (genv : Env) : Code := .forLoop (.Name x px) (.ref I) [.Expr (.Yield (some (.Name x py)) pq) pe] [] genv
/-- the frame below the loop of a generator: at the loop's end the generator ends -/
structure YFrame (w : World) (fb : List Stmt) (genv : Env) (F0 : Frame) : Prop where
  shape : ∃ k l p, F0 = .ret k none false l (.func fb genv) p []
  ends : ∀ (A : Around) (c : Code) (s : Shared) (P : End → Shared → Prop), P (.ret (.ok (.ret .none))) s → SegX (model PW w) A c (.pure (.done .next)) [F0] s P

theorem y_enter {x : Str} {px py pq pe pf : Pos} {iter : Expr} {genv : Env} {lr : Addr} {vs : List Value}
    (hs : ∀ x, foldedSetIterable iter genv x = pure x)
    (hit : wpAny (model PW w) (A.over (.func (yBody x px py pq pe pf iter) genv) []) (eval iter genv) (fun xv s₁ => ∃ h1 tk1, s₁ = { s with heap := h1, toks := tk1 } ∧ xv = .ref lr ∧ h1.IsList lr vs.toArray ∧
      ∀ F0, YFrame w (yBody x px py pq pe pf iter) genv F0 → SegX (model PW w) A (yLoop x px py pq pe h1.objs.size genv) (denote table (yLoop x px py pq pe h1.objs.size genv)) [F0] { s with heap := h1.push { cls := .type "list_iterator", data := .fields #[.ref lr, .int 0 0] }, toks := tk1 } P) (fun _ _ => False) s) :
    SegX (model PW w) A (.func (yBody x px py pq pe pf iter) genv) (denote table (.func (yBody x px py pq pe pf iter) genv)) [] s P := by
  show SegX _ _ _ (point >>= fun _ => (execs (yBody x px py pq pe pf iter) genv).onRaise (leaving genv) >>= fun f => match f with | .ret v => ret v | _ => ret .none) [] s P
  rw [Sem.bind_eq_wrap']
  refine sx_wrap (wpAny_point ?_)
  rw [Sem.bind_eq_wrap', Sem.onRaise_eq_wrap, Sem.wrap_wrap]
  show SegX _ _ _ (Sem.wrap _ _ _ _ (exec (.For (.Name x px) iter [.Expr (.Yield (some (.Name x py)) pq) pe] [] pf) genv >>= (fun f => match f with | .next => execs [] genv | f => pure f))) [] s P
  rw [Sem.bind_eq_wrap', Sem.wrap_wrap, exec_For]
  refine sx_bind_wrap (wpAny_standAt ?_)
  refine sx_bind_wrap (wpAny_mono hit (fun xv s₁ h => ?_) fun _ _ h => h.elim)
  obtain ⟨h1, tk1, rfl, rfl, hl, k⟩ := h
  rw [hs]
  refine sx_bind_wrap (wpAny_pure ?_)
  refine sx_bind_wrap (wpAny_standAt ?_)
  refine sx_bind_wrap (wpAny_holding (wpAny_pyIter_list hl ?_))
  unfold runOwn
  rw [Sem.onRaise_eq_wrap, Sem.wrap_wrap]
  refine s_call PW w _ _ _ _ _ _ _ _ _ _ fun p => ?_
  refine k _ ⟨⟨_, _, _, rfl⟩, fun A c s P hP => ?_⟩
  refine s_pop PW w _ _ _ _ _ (.ok .next) _ rfl _ _ _ _ _ _ _ ?_
  exact s_end PW w _ _ _ _ (.ok (.ret .none)) _ rfl hP

theorem y_loop {x : Str} {px py pq pe : Pos} {genv : Env} {fb : List Stmt} {F0 : Frame} {g h₁ : Heap} {mC : Str → Option Value} {I lr : Addr} {oI : Obj} {i nr t₁ : Nat} {vs : List Value} {led : List (Addr × Obj)}
    (hx : genv.kindOf x = some .local) (hk : genv.scope.kind = .function) (hco : genv.scope.isCoroutine = false) (hd : (x == ("__debug__" : Str)) = false) (Y : YFrame w fb genv F0) (hA : A.handled = none)
    (F : Fr g genv.locals h₁ mC) (N : News g genv.locals h₁ ((I, oI) :: led)) (hI : IterO oI lr i) (hl : (lr, listOf vs.toArray nr) ∈ led) (hne : ∀ p ∈ led, p.1 ≠ I) (hi : i ≤ vs.length)
    (hEnd : i = vs.length → ∀ h' tk' mC', Fr g genv.locals h' mC' → News g genv.locals h' led → P (.ret (.ok (.ret .none))) { s with heap := h', toks := tk' })
    (hYield : ∀ v oI' h' tk' mC' k lv p', vs[i]? = some v → Fr g genv.locals h' mC' → News g genv.locals h' ((I, oI') :: led) → IterO oI' lr (i + 1) →
      (∀ (A : Around) (s : Shared) (P : End → Shared → Prop), SegX (model PW w) A (yLoop x px py pq pe I genv) (denote table (yLoop x px py pq pe I genv)) [F0] s P → SegX (model PW w) A (yLoop x px py pq pe I genv) (k (.send .none)) [F0] s P) →
      P (.susp v false lv k (yLoop x px py pq pe I genv) p' [F0]) { s with heap := h', toks := tk' }) :
    SegX (model PW w) A (yLoop x px py pq pe I genv) (denote table (yLoop x px py pq pe I genv)) [F0] { s with heap := h₁, toks := t₁ } P := by
  show SegX _ _ _ ((forTurn (.Name x px) (.ref I) [.Expr (.Yield (some (.Name x py)) pq) pe] [] genv).onRaise _) [F0] _ P
  unfold forTurn
  rw [Sem.onRaise_eq_wrap]
  refine sx_bind_wrap (wpAny_standAt ?_)
  have nI := N _ (.head _)
  have nl := N _ (.tail _ hl)
  rcases Nat.lt_or_ge i vs.length with hlt | hge
  · obtain ⟨v, hv⟩ : ∃ v, vs[i]? = some v := ⟨vs[i]'hlt, by simp⟩
    refine sx_bind_wrap (wpAny_onRaise (wpAny_pyNext_list_item (hI.at nI.1) (items := vs.toArray) ⟨_, nl.1, rfl, _, rfl⟩ (by simpa using hv) fun h₂ hit₂ hs₂ => ?_))
    obtain ⟨oI₂, eI₂, hcI₂, hdI₂⟩ := hit₂
    have F₂ := F.change hs₂ nI.2.1 nI.2.2
    have N₂ : News g genv.locals h₂ ((I, oI₂) :: led) := fun p hp => by
      rcases List.mem_cons.mp hp with rfl | hp
      · exact ⟨eI₂, nI.2⟩
      · exact ⟨(hs₂.2 _ (hne p hp)).trans (N p (.tail _ hp)).1, (N p (.tail _ hp)).2⟩
    refine sx_bind_wrap (wpAny_of_eq (rfl : letOwnedTupleGo (.Name x px) (.ref I) v = pure ()) ?_)
    refine sx_bind_wrap (wpAny_assign_Name (wpAny_storeName_local hx F₂.ns (fun h₃ hn₃ hs₃ => ?_) (by rw [hk]; rfl)))
    have F₃ := F₂.set hn₃ hs₃
    have N₃ := N₂.set hs₃
    rw [Sem.bind_eq_wrap', Sem.wrap_wrap]
    show SegX _ _ _ (Sem.wrap _ _ _ _ (exec (.Expr (.Yield (some (.Name x py)) pq) pe) genv >>= (fun f => match f with | .next => execs [] genv | f => pure f))) [F0] _ P
    rw [Sem.bind_eq_wrap', Sem.wrap_wrap, arm_exec_Expr]
    have hi0 : interactive genv = false := by unfold interactive; rw [hk]; rfl
    refine sx_bind_wrap (wpAny_standAt ?_)
    simp only [hi0, Bool.false_eq_true, if_false]
    refine sx_bind_wrap (wpAny_of_eq (rfl : swapsWith (.Yield (some (.Name x py)) pq) none pe.line genv = pure false) ?_)
    simp only [Bool.false_eq_true, if_false]
    rw [Sem.bind_eq_wrap', Sem.wrap_wrap, arm_eval_Yield]
    refine sx_bind_wrap ?_
    show wpAny _ _ (eval (.Name x py) genv) _ _ _
    refine wpAny_Name (wpAny_loadName_local hk hx F₃.ns (if_pos rfl) ?_) hd
    refine sx_bind_wrap (wpAny_standAt ?_)
    have hy : ∀ v, yieldOut genv v = yieldValue v := fun v => by simp only [yieldOut, hco, Bool.false_eq_true, if_false]
    rw [hy]
    obtain ⟨k0, l0, p0, rfl⟩ := Y.shape
    refine s_yield PW w _ _ _ _ _ _ _ _ rfl rfl fun p' => ?_
    refine hYield v oI₂ h₃ _ _ _ _ p' hv F₃ N₃ ⟨hcI₂, hdI₂⟩ fun A' s' P' z => ?_
    exact s_again PW w _ _ _ _ s' _ rfl z
  · have hin : i = vs.length := by omega
    subst hin
    have hA' : (A.over (yLoop x px py pq pe I genv) [F0]).handled = none := by
      obtain ⟨k0, l0, p0, rfl⟩ := Y.shape
      show (marksOver _ (A.handled, A.handled)).1 = none
      rw [hA]; rfl
    refine sx_bind_wrap (wpAny_onRaise (wpAny_pyNext_list_end hA' (hI.at nI.1) (items := vs.toArray) ⟨_, nl.1, rfl, _, rfl⟩ (by simp) fun h' he => ?_))
    refine s_again PW w _ _ _ _ _ _ rfl ?_
    refine Y.ends _ _ _ _ (hEnd rfl h' t₁ mC ⟨F.ns.extBut he nI.2.1.symm, fun b o e => he b o (fun q => ?_) (F.keep b o e), F.above⟩ fun p hp => ⟨he _ _ (hne p hp) (N p (.tail _ hp)).1, (N p (.tail _ hp)).2⟩)
    rw [q, nI.2.2] at e; cases e

theorem y_call {K : Frag} {R : Result → Shared → Prop} {name qual : Str} {params : Arguments} {body : List Stmt} {scope : Scope} {dV kV doc pm cdv ct oc : Value} {an od : Option Addr} {osl : Array (Option Value)} {f : Addr} {args : Args} {binds : List (Str × Value)}
    (F : Fr h₀ L s.heap m) (X₀ : K.In h₀) (N : News h₀ L s.heap news) (T : Top p loose mean mg mb h₀)
    (ho : K.lookup f = some ⟨oc, od, .func (fnOf name qual params body scope dV kV doc pm an cdv ct), osl⟩) (hcd : codeIn K cdv qual = true) (hroom : A.depth < recursionLimit)
    (hbind : BindsTo s (fnOf name qual params body scope dV kV doc pm an cdv ct) args binds) (hloc : ∀ y ∈ binds, scope.names.lookup y.1 = some .local)
    (hco : scope.isCoroutine = false) (hgen : scope.isGenerator = true) (hk : scope.kind = .function) (hcell : ∀ x ∈ scope.names, x.2 ≠ .cell)
    (ret : ∀ C oC a oa h' tk', Fr h₀ L h' m → News h₀ L h' ((a, oa) :: (C, oC) :: news) → NsO oC (fun x => binds.reverse.lookup x) → GenO oa s.gens.size → (∀ p ∈ news, @LT.lt Nat _ p.1 C) → @LT.lt Nat _ L C → @LT.lt Nat _ C a →
      R (.ok (.ret (.ref a))) { s with gens := s.gens.push (.fresh (.func body (envOf qual scope C f cdv))), heap := h', toks := tk' }) :
    codeAny (model PW w) A (.call (.ref f) args) R s := by
  refine codeAny_of_tree ?_
  show wpAny _ A.in1 (callAny (.ref f) args) _ _ s
  simp only [callAny]
  refine wpAny_bind (wpAny_load ((X₀.keeps F.keep) _ _ ho) ?_)
  obtain ⟨c, oc', vs, tq, hc, hoc, hdc, hq⟩ := codeRec_of (X₀.keeps F.keep) hcd
  obtain rfl : cdv = .ref c := hc
  simp only [fnOf, callFunction, hco, hgen]
  refine wpAny_bind (m := field (.ref c) 1) (wpAny_field hoc hdc hq (wpAny_bind (wpAny_pure ?_)))
  refine wpAny_bind (hbind _ _ _ _ ?_)
  have lt : ∀ q ∈ news, q.1 < s.heap.objs.size := fun q hq => Heap.lt_size (N q hq).1
  have hLs : L < s.heap.objs.size := F.ns.lt
  have fresh : ∀ b, L < b → h₀.get? b = none := fun b hb => Heap.get?_none_of_le (Nat.le_trans F.above (Nat.le_of_lt hb))
  refine wpAny_bind (wpAny_newFunctionEnv hcell hloc (fun h' hn' hs' => ?_) hk)
  have keep : ∀ b o, s.heap.get? b = some o → h'.get? b = some o := fun b o e => hs'.extBut b o (Nat.ne_of_lt (Heap.lt_size e)) (Heap.get?_push_of_some _ e)
  refine wpAny_bind (wpAny_enterFrame ((T.nolimit.keeps F.keep).keeps keep) hroom ?_)
  simp only [newGenerator, newFields]
  have hsz : s.heap.objs.size < h'.objs.size := by rw [hs'.1, Heap.size_push]; exact Nat.lt_succ_self _
  obtain ⟨oC, eC, hC⟩ := NsO.of hn'
  refine wpAny_bind (wpAny_bind (wpAny_newGen (wpAny_bind (wpAny_mkText (wpAny_bind (wpAny_mkText (wpAny_newObj_type ?_ (by size_fits))))))))
  refine wpAny_pure ?_
  dsimp only
  refine ret s.heap.objs.size oC h'.objs.size { cls := .type "generator", data := .fields #[.int s.gens.size 0, .str name (s.toks + binds.length), .str qual (s.toks + binds.length + 1)] } _ _ ⟨(F.ns.keeps keep).push _, fun b o e => Heap.get?_push_of_some _ (keep b o (F.keep b o e)), F.above⟩ (fun q hq => ?_) hC ⟨_, _, rfl, rfl, rfl⟩ lt hLs hsz
  rcases List.mem_cons.mp hq with rfl | hq
  · exact ⟨Heap.get?_push_size _ rfl, Nat.ne_of_gt (Nat.lt_trans hLs hsz), fresh _ (Nat.lt_trans hLs hsz)⟩
  rcases List.mem_cons.mp hq with rfl | hq
  · exact ⟨Heap.get?_push_of_some _ eC, Nat.ne_of_gt hLs, fresh _ hLs⟩
  · exact ⟨Heap.get?_push_of_some _ (keep _ _ (N q hq).1), (N q hq).2⟩

/-- how a generator sleeps, its frames told -/
noncomputable def WakeF (w : World) (prog : Program) (gs : GenState) (c₀ : Code) (t₀ : Sem PySem.Fin) (fs₀ : List Frame) : Prop :=
  (gs = .fresh c₀ ∧ t₀ = denote table c₀ ∧ fs₀ = []) ∨ ∃ k₀ l₀ p₀ cl, gs = .suspended k₀ l₀ c₀ p₀ fs₀ cl ∧ t₀ = k₀ (.send .none)

theorem nextGenY {E : Value → Shared → Prop} {Q : Option Value → Shared → Prop} {a : Addr} {gn : Nat} {gs : GenState} {c₀ : Code} {t₀ : Sem PySem.Fin} {fs₀ : List Frame} (hh : A.handled = none) (hl : s.heap.NoLimit) (hroom : A.depth < recursionLimit)
    (hg : s.heap.IsGen a gn) (hgs : s.gens[gn]? = some gs) (hw : WakeF w PW gs c₀ t₀ fs₀)
    (x : SegX (model PW w) A.in1 c₀ t₀ fs₀ (s.setGen gn .running) (fun e s₁ => match e with
      | .ret (.ok (.ret .none)) => ∀ o₁ o₂, o₁.isFreed = false → o₂.isFreed = false → Q none { s₁.setGen gn .finished with heap := (s₁.heap.push o₁).push o₂ }
      | .ret _ => False
      | .susp v gd lv k c p fs => Q (some v) (s₁.setGen gn (.suspended k lv c p fs (gd || fs.any Frame.guarded))))) :
    wpAny (model PW w) A (pyNext (.ref a)) Q E s := by
  unfold pyNext
  refine wpAny_bind (wpAny_attempt (wpAny_callSpecial?_slot (name := Str.ofString "__next__") hg.typeIs slot_gen_next
    (wpAny_call_entry slot_gen_next hg.typeIs entry_gen_next ?_ (args_gen_next _))))
  show wpAny _ A.in1 (Builtin.Generator.genWake (.ref a) (.send .none)) _ _ s
  unfold Builtin.Generator.genWake
  refine wpAny_bind (wpAny_holding (wpAny_genNumber hg (wpAny_bind (wpAny_genState hgs ?_))))
  have hgo : ∀ (Q₁ : PySem.Fin → Shared → Prop) (E₁ : Value → Shared → Prop) (l : List Value) (k : GenResult → Sem PySem.Fin), SegX (model PW w) A.in1 c₀ t₀ fs₀ (s.setGen gn .running) (fun e s₁ => wpAny (model PW w) A.in1 (k e.result) Q₁ E₁ (s₁.setGen gn e.genState)) →
      wpAny (model PW w) A.in1 (.resume gn (.send .none) l k) Q₁ E₁ s := fun Q₁ E₁ l k x => by
    have z := wake_any PySem.Fin PW w (A := A.in1) (Q := Q₁) (E := E₁) (s := s) (g := gn) (gs := gs) (r := .send .none) (l := l) (k := k) (c₀ := c₀) (t₀ := t₀) (fs₀ := fs₀) hgs
      (by
        rcases hw with ⟨a, b, c⟩ | ⟨k₀, l₀, p₀, cl, a, b⟩
        · exact .inl ⟨a, rfl, b, c⟩
        · exact .inr ⟨k₀, l₀, p₀, cl, a, b⟩) (fun Γ => Γ.In A.in1) (fun Γ h => h) (x.mono fun e s' h Γ p hΓ => h Γ p hΓ)
    exact fun Γ p hΓ => z Γ p hΓ
  rcases hw with ⟨e0, _, _⟩ | ⟨k₀, l₀, p₀, cl, e0, _⟩
  all_goals
    subst e0
    refine wpAny_bind (wpAny_roomToWake hl hroom ?_)
    show wpAny _ A.in1 (.resume gn (.send .none) [] _) _ _ s
    refine hgo _ _ _ _ (x.mono fun e s₁ he => ?_)
    match e, he with
    | .ret (.ok (.ret .none)), he =>
      show wpAny _ A.in1 (newExc (.type "StopIteration") [] >>= _) _ _ _
      refine wpAny_bind ?_
      simp only [newExc, newTuple]
      refine wpAny_bind (wpAny_newObj_type ?_ (by size_fits))
      refine wpAny_bind (m := firstArgMember _ _) (wpAny_of_eq (a := Value.none) (by first | rfl | (simp only [firstArgMember]; rfl)) ?_)
      refine wpAny_newObj_type ?_ (by size_fits)
      simp only [raiseNew]
      refine wpAny_bind (wpAny_bind (wpAny_handled ?_))
      first | rw [show A.in1.handled = none from hh] | rw [hh]
      refine wpAny_throw ?_
      refine wpAny_bind (wpAny_isInstance (T := "StopIteration") (b := true) ⟨_, Heap.get?_push_size _ rfl, rfl⟩ isSubtype_stop ?_)
      exact wpAny_pure (he _ _ rfl rfl)
    | .susp v gd lv k c p fs, he => exact wpAny_pure ⟨v, rfl, wpAny_pure he⟩

/-- a generator of that kind that has handed on i items; gl are its own objects -/
noncomputable def YSt (w : World) (x : Str) (px py pq pe : Pos) (genv : Env) (fb : List Stmt) (lr a C : Addr) (m0 : Str → Option Value) (gn i : Nat) (gens : Array GenState) (gl : List (Addr × Obj)) : Prop :=
  ∃ gs oa oC mC, gens[gn]? = some gs ∧ GenO oa gn ∧ NsO oC mC ∧
    ((gl = [(C, oC), (a, oa)] ∧ i = 0 ∧ gs = .fresh (.func fb genv) ∧ mC = m0) ∨
     ∃ I oI F0 k l p cl, gl = [(C, oC), (I, oI), (a, oa)] ∧ I ≠ C ∧ I ≠ a ∧ IterO oI lr i ∧ gs = .suspended k l (yLoop x px py pq pe I genv) p [F0] cl ∧ YFrame w fb genv F0 ∧
      ∀ (A : Around) (s : Shared) (P : End → Shared → Prop), SegX (model PW w) A (yLoop x px py pq pe I genv) (denote table (yLoop x px py pq pe I genv)) [F0] s P → SegX (model PW w) A (yLoop x px py pq pe I genv) (k (.send .none)) [F0] s P)

theorem y_next {Q : Option Value → Shared → Prop} {E : Value → Shared → Prop} {x : Str} {px py pq pe pf : Pos} {iter : Expr} {genv : Env} {lr a C : Addr} {gn i nr : Nat} {m0 : Str → Option Value} {vs : List Value} {gl led : List (Addr × Obj)}
    (F : Fr h₀ L s.heap m) (X : (Mine.K w.params).In h₀) (T : Top p loose mean mg mb h₀) (hA : A.handled = none) (hd : A.depth < recursionLimit)
    (hC : genv.locals = C) (hx : genv.kindOf x = some .local) (hk : genv.scope.kind = .function) (hco : genv.scope.isCoroutine = false) (hdb : (x == ("__debug__" : Str)) = false) (hs : ∀ x, foldedSetIterable iter genv x = pure x)
    (S : YSt w x px py pq pe genv (yBody x px py pq pe pf iter) lr a C m0 gn i s.gens gl) (N : News h₀ L s.heap (gl ++ led)) (hl : (lr, listOf vs.toArray nr) ∈ led) (hne : ∀ p ∈ led, ∀ q ∈ gl, p.1 ≠ q.1) (hLC : L < C) (hCa : C ≠ a) (hi : i ≤ vs.length) (hab : AllBare s.gens)
    (hit : ∀ {A : Around} {g : Heap} {led' : List (Addr × Obj)} {s : Shared} {Q : Value → Shared → Prop}, Fr g C s.heap m0 → (Mine.K w.params).In g → Top p loose mean mg mb g → News g C s.heap led' → (∀ p ∈ led, p ∈ led') →
      (∀ h' tk', Fr g C h' m0 → News g C h' led' → Q (.ref lr) { s with heap := h', toks := tk' }) → wpAny (model PW w) A (eval iter genv) Q (fun _ _ => False) s)
    (qN : i = vs.length → ∀ h' tk' gs', Fr h₀ L h' m → News h₀ L h' led → AllBare gs' → Q none { s with heap := h', gens := gs', toks := tk' })
    (qS : ∀ v gl' h' tk' gs', vs[i]? = some v → Fr h₀ L h' m → News h₀ L h' (gl' ++ led) → YSt w x px py pq pe genv (yBody x px py pq pe pf iter) lr a C m0 gn (i + 1) gs' gl' → (∀ p ∈ led, ∀ q ∈ gl', p.1 ≠ q.1) → AllBare gs' → Q (some v) { s with heap := h', gens := gs', toks := tk' }) :
    wpAny (model PW w) A (pyNext (.ref a)) Q E s := by
  obtain ⟨gs, oa, oC, mC, hgs, hoa, hoC, hcase⟩ := S
  have hlt : gn < s.gens.size := by
    rcases Nat.lt_or_ge gn s.gens.size with h | h
    · exact h
    · rw [Array.getElem?_eq_none h] at hgs; cases hgs
  subst hC
  rcases hcase with ⟨rfl, rfl, rfl, rfl⟩ | ⟨I, oI, F0, k, l, p', cl, rfl, hIC, hIa, hI, rfl, Y, hgo⟩
  · have nC := N _ (.head _)
    have na := N _ (.tail _ (.head _))
    have N' : News h₀ L s.heap ((a, oa) :: led) := fun q hq => N q (.tail _ hq)
    have hapC : ∀ q ∈ (a, oa) :: led, q.1 ≠ genv.locals := fun q hq => by
      rcases List.mem_cons.mp hq with rfl | hq
      · exact Ne.symm hCa
      · exact hne q hq _ (.head _)
    obtain ⟨g, FG, FC, NC⟩ := rebase F N' hLC (hoC.ns nC.1) hapC
    refine nextGenY hA ((T.nolimit).keeps F.keep) hd (hoa.at na.1) hgs (.inl ⟨rfl, rfl, rfl⟩) ?_
    refine y_enter (lr := lr) (vs := vs) hs (hit (s := s.setGen gn .running) FC (X.keeps FG.keep) (T.keeps FG.keep) NC (fun q hq => .tail _ hq) fun h' tk' F' N₁ => ⟨h', tk', rfl, rfl, ⟨_, (N₁ _ (.tail _ hl)).1, rfl, _, rfl⟩, fun F0 Y => ?_⟩)
    have lt : ∀ q ∈ (a, oa) :: led, q.1 < h'.objs.size := fun q hq => Heap.lt_size (N₁ q hq).1
    have hCs : genv.locals < h'.objs.size := F'.ns.lt
    have NI : News g genv.locals (h'.push { cls := .type "list_iterator", data := .fields #[.ref lr, .int 0 0] }) ((h'.objs.size, { cls := .type "list_iterator", data := .fields #[.ref lr, .int 0 0] }) :: (a, oa) :: led) := fun q hq => by
      rcases List.mem_cons.mp hq with rfl | hq
      · exact ⟨Heap.get?_push_size _ rfl, Nat.ne_of_gt hCs, Heap.get?_none_of_le (Nat.le_trans F'.above (Nat.le_of_lt hCs))⟩
      · exact ⟨Heap.get?_push_of_some _ (N₁ q hq).1, (N₁ q hq).2⟩
    refine y_loop (s := s.setGen gn .running) hx hk hco hdb Y hA (F'.push _) NI ⟨rfl, rfl⟩ (.tail _ hl) (fun q hq => Nat.ne_of_lt (lt q hq)) (Nat.zero_le _) (fun h0 h₂ tk₂ mC' F₂ N₂ o₁ o₂ _ _ => ?_) fun v oI' h₂ tk₂ mC' k lv p₂ hv F₂ N₂ hI' hgo => ?_
    · obtain ⟨FL, oC', _, NL⟩ := unbase FG F₂ N₂
      refine qN h0 _ _ _ ((FL.push _).push _) (fun q hq => ?_) (allBare_set (allBare_set hab rfl) rfl)
      have := NL q (.tail _ (.tail _ hq))
      exact ⟨Heap.get?_push_of_some _ (Heap.get?_push_of_some _ this.1), this.2⟩
    · obtain ⟨FL, oC', hC', NL⟩ := unbase FG F₂ N₂
      refine qS v [(genv.locals, oC'), (h'.objs.size, oI'), (a, oa)] _ _ _ hv FL NL ⟨_, oa, oC', mC', ?_, hoa, hC', .inr ⟨_, oI', F0, k, lv, p₂, (false || [F0].any Frame.guarded), rfl, Nat.ne_of_gt hCs, Nat.ne_of_gt (lt _ (.head _)), hI', rfl, Y, hgo⟩⟩ (fun q hq r hr => ?_) (allBare_set (allBare_set hab rfl) ?_)
      · show ((s.gens.setIfInBounds gn .running).setIfInBounds gn _)[gn]? = _
        rw [Array.getElem?_setIfInBounds_self_of_lt (by simpa using hlt)]
      · rcases List.mem_cons.mp hr with rfl | hr
        · exact hne q hq (genv.locals, oC) (.head _)
        rcases List.mem_cons.mp hr with rfl | hr
        · exact Nat.ne_of_lt (lt q (.tail _ hq))
        · exact hne q hq r (.tail _ hr)
      · obtain ⟨k0, l0, p0, rfl⟩ := Y.shape; rfl
  · have nC := N _ (.head _)
    have nI := N _ (.tail _ (.head _))
    have na := N _ (.tail _ (.tail _ (.head _)))
    have N' : News h₀ L s.heap ((I, oI) :: (a, oa) :: led) := fun q hq => N q (.tail _ hq)
    have hapC : ∀ q ∈ (I, oI) :: (a, oa) :: led, q.1 ≠ genv.locals := fun q hq => by
      rcases List.mem_cons.mp hq with rfl | hq
      · exact hIC
      rcases List.mem_cons.mp hq with rfl | hq
      · exact Ne.symm hCa
      · exact hne q hq _ (.head _)
    have hapI : ∀ q ∈ (a, oa) :: led, q.1 ≠ I := fun q hq => by
      rcases List.mem_cons.mp hq with rfl | hq
      · exact Ne.symm hIa
      · exact hne q hq (I, oI) (.tail _ (.head _))
    obtain ⟨g, FG, FC, NC⟩ := rebase F N' hLC (hoC.ns nC.1) hapC
    refine nextGenY hA ((T.nolimit).keeps F.keep) hd (hoa.at na.1) hgs (.inr ⟨_, _, _, _, rfl, rfl⟩) (hgo _ _ _ ?_)
    refine y_loop (s := s.setGen gn .running) hx hk hco hdb Y hA FC NC hI (.tail _ hl) hapI hi (fun h0 h₂ tk₂ mC' F₂ N₂ o₁ o₂ _ _ => ?_) fun v oI' h₂ tk₂ mC' k lv p₂ hv F₂ N₂ hI' hgo => ?_
    · obtain ⟨FL, oC', _, NL⟩ := unbase FG F₂ N₂
      refine qN h0 _ _ _ ((FL.push _).push _) (fun q hq => ?_) (allBare_set (allBare_set hab rfl) rfl)
      have := NL q (.tail _ (.tail _ hq))
      exact ⟨Heap.get?_push_of_some _ (Heap.get?_push_of_some _ this.1), this.2⟩
    · obtain ⟨FL, oC', hC', NL⟩ := unbase FG F₂ N₂
      refine qS v [(genv.locals, oC'), (I, oI'), (a, oa)] _ _ _ hv FL NL ⟨_, oa, oC', mC', ?_, hoa, hC', .inr ⟨_, oI', F0, k, lv, p₂, (false || [F0].any Frame.guarded), rfl, hIC, hIa, hI', rfl, Y, hgo⟩⟩ (fun q hq r hr => ?_) (allBare_set (allBare_set hab rfl) ?_)
      · show ((s.gens.setIfInBounds gn .running).setIfInBounds gn _)[gn]? = _
        rw [Array.getElem?_setIfInBounds_self_of_lt (by simpa using hlt)]
      · rcases List.mem_cons.mp hr with rfl | hr
        · exact hne q hq (genv.locals, oC) (.head _)
        rcases List.mem_cons.mp hr with rfl | hr
        · exact hne q hq (I, oI) (.tail _ (.head _))
        · exact hne q hq r (.tail _ (.tail _ hr))
      · obtain ⟨k0, l0, p0, rfl⟩ := Y.shape; rfl
/-- a for over such a generator, by what holds between the turns -/
theorem y_for {R : Result → Shared → Prop} {x tg : Str} {px py pq pe pf pt : Pos} {iter : Expr} {genv : Env} {body : List Stmt} {lr a : Addr} {oC oa : Obj} {nr : Nat} {m0 m₁ : Str → Option Value} {h₁ : Heap} {gens₁ : Array GenState} {t₁ : Tok} {vs : List Value} {fz led : List (Addr × Obj)}
    (J : Nat → List (Addr × Obj) → (Str → Option Value) → Prop)
    (F : Fr h₀ env.locals h₁ m₁) (X : (Mine.K w.params).In h₀) (T : Top p loose mean mg mb h₀) (hA : A.handled = none) (hd : A.depth < recursionLimit)
    (htg : env.kindOf tg = some .local) (hke : env.scope.kind = .function)
    (hx : genv.kindOf x = some .local) (hk : genv.scope.kind = .function) (hco : genv.scope.isCoroutine = false) (hdb : (x == ("__debug__" : Str)) = false) (hs : ∀ x, foldedSetIterable iter genv x = pure x)
    (hoC : NsO oC m0) (hoa : GenO oa gens₁.size) (N : News h₀ env.locals h₁ ((a, oa) :: (genv.locals, oC) :: led)) (hj0 : J 0 led m₁) (hl : ∀ i led m', J i led m' → ∀ p ∈ fz, p ∈ led) (hlr : (lr, listOf vs.toArray nr) ∈ fz) (hne : ∀ p ∈ led, p.1 ≠ genv.locals ∧ p.1 ≠ a) (hLC : env.locals < genv.locals) (hCa : genv.locals ≠ a) (hab : AllBare gens₁)
    (hit : ∀ {A : Around} {g : Heap} {led' : List (Addr × Obj)} {s : Shared} {Q : Value → Shared → Prop}, Fr g genv.locals s.heap m0 → (Mine.K w.params).In g → Top p loose mean mg mb g → News g genv.locals s.heap led' → (∀ p ∈ fz, p ∈ led') →
      (∀ h' tk', Fr g genv.locals h' m0 → News g genv.locals h' led' → Q (.ref lr) { s with heap := h', toks := tk' }) → wpAny (model PW w) A (eval iter genv) Q (fun _ _ => False) s)
    (turn : ∀ i v gl led m' h' tk' gs' dr', vs[i]? = some v → J i led m' → Fr h₀ env.locals h' (fun y => if y = tg then some v else m' y) → News h₀ env.locals h' (gl ++ led) → (∀ p ∈ led, ∀ q ∈ gl, p.1 ≠ q.1) →
      wpAny (model PW w) A (execs body env) (fun f s₃ => Hold (f = .next ∧ ∃ led2 m2 h2 tk2, s₃ = { s with heap := h2, gens := gs', drawn := dr', toks := tk2 } ∧ Fr h₀ env.locals h2 m2 ∧ News h₀ env.locals h2 (gl ++ led2) ∧ J (i + 1) led2 m2 ∧ ∀ p ∈ led2, ∀ q ∈ gl, p.1 ≠ q.1)) (fun _ _ => False)
        { s with heap := h', gens := gs', drawn := dr', toks := tk' })
    (done : ∀ led m' h' tk' gs' dr', J vs.length led m' → Fr h₀ env.locals h' m' → News h₀ env.locals h' led → AllBare gs' → R (.ok .next) { s with heap := h', gens := gs', drawn := dr', toks := tk' }) :
    codeAny (model PW w) A (.forLoop (.Name tg pt) (.ref a) body [] env) R { s with heap := h₁, gens := gens₁.push (.fresh (.func (yBody x px py pq pe pf iter) genv)), toks := t₁ } := by
  refine codeAny_forLoop (fun n s' => ∃ i gl led m' h' tk' gs' dr', n = vs.length + 1 - i ∧ i ≤ vs.length ∧ s' = { s with heap := h', gens := gs', drawn := dr', toks := tk' } ∧ Fr h₀ env.locals h' m' ∧ News h₀ env.locals h' (gl ++ led) ∧ J i led m' ∧
    YSt w x px py pq pe genv (yBody x px py pq pe pf iter) lr a genv.locals m0 gens₁.size i gs' gl ∧ (∀ p ∈ led, ∀ q ∈ gl, p.1 ≠ q.1) ∧ AllBare gs') ?_ (vs.length + 1) ?_
  · rintro n s' ⟨i, gl, led', m', h', tk', gs', dr', rfl, hi, rfl, F', N', hJ, S', hne', hab'⟩
    refine y_next (s := { s with heap := h', gens := gs', drawn := dr', toks := tk' }) F' X T hA hd rfl hx hk hco hdb hs S' N' (hl _ _ _ hJ _ hlr) hne' hLC hCa hi hab' (fun hF hX hT hN hsub hq => ?_) (fun h0 h₂ tk₂ gs₂ F₂ N₂ hab₂ => ?_) (fun v gl₂ h₂ tk₂ gs₂ hv F₂ N₂ S₂ hne₂ hab₂ => ?_)
    · exact hit hF hX hT hN (fun q hq => hsub q (hl _ _ _ hJ q hq)) hq
    · exact wpAny_execs_nil (done led' m' h₂ tk₂ gs₂ dr' (h0 ▸ hJ) F₂ N₂ hab₂)
    · have hlt := (List.getElem?_eq_some_iff.mp hv).1
      refine wpAny_assign_Name (wpAny_storeName_local htg F₂.ns (fun h₃ hn₃ hs₃ => ?_) (by rw [hke]; rfl))
      refine wpAny_mono (turn i v gl₂ led' m' h₃ _ gs₂ dr' hv hJ (F₂.set hn₃ hs₃) (N₂.set hs₃) hne₂) (fun f s₃ hf => ?_) fun _ _ h => h.elim
      obtain ⟨rfl, led2, m2, h2, tk2, rfl, Fz, Nz, hJz, hnz⟩ := hf.get
      exact ⟨vs.length + 1 - (i + 1), by omega, i + 1, gl₂, led2, m2, h2, tk2, gs₂, dr', rfl, hlt, rfl, Fz, Nz, hJz, S₂, hnz, hab₂⟩
  · refine ⟨0, [(genv.locals, oC), (a, oa)], led, m₁, h₁, t₁, _, s.drawn, rfl, Nat.zero_le _, rfl, F, fun q hq => N q ?_, hj0, ⟨_, oa, oC, _, by rw [Array.getElem?_push, if_pos rfl], hoa, hoC, .inl ⟨rfl, rfl, rfl, rfl⟩⟩, fun q hq r hr => ?_, hab.push rfl⟩
    · rcases List.mem_cons.mp hq with rfl | hq
      · exact .tail _ (.head _)
      rcases List.mem_cons.mp hq with rfl | hq
      · exact .head _
      · exact .tail _ (.tail _ hq)
    · rcases List.mem_cons.mp hr with rfl | hr
      · exact (hne q hq).1
      · rw [List.mem_singleton.mp hr]; exact (hne q hq).2
theorem hold_for {M : Model} {A : Around} {E : Value → Shared → Prop} {Q : Flow → Shared → Prop} {env : Env} {t i : Expr} {b o : List Stmt} {pos : Pos} (h : Hold (wpAny M A (exec (.For t i b o pos) env) Q E s)) : wpAny M A (exec (.For t i b o pos) env) Q E s := h.get
theorem hold_iter {M : Model} {A : Around} {E : Value → Shared → Prop} {Q : Value → Shared → Prop} {x : Addr} (h : Hold (wpAny M A (pyIter (.ref x)) Q E s)) : wpAny M A (pyIter (.ref x)) Q E s := h.get
end
end Mine
local macro_rules | `(tactic| walk_at "exec For Name Name cons nil") => Mine.sHold "Mine.hold_for"
namespace Mine
open PySem.W.X
/-- a list of values told item by item -/
noncomputable def ListR {α : Type} (R : Value → α → Prop) : List Value → List α → Prop
  | [], [] => True
  | v :: vs, a :: as => R v a ∧ ListR R vs as
  | _, _ => False
theorem ListR.imp {α : Type} {R R' : Value → α → Prop} (h : ∀ v a, R v a → R' v a) : ∀ {vs : List Value} {as : List α}, ListR R vs as → ListR R' vs as
  | [], [], _ => trivial
  | _ :: _, _ :: _, x => ⟨h _ _ x.1, ListR.imp h x.2⟩
  | [], _ :: _, x => x.elim
  | _ :: _, [], x => x.elim
theorem ListR.append {α : Type} {R : Value → α → Prop} : ∀ {vs us : List Value} {as bs : List α}, ListR R vs as → ListR R us bs → ListR R (vs ++ us) (as ++ bs)
  | [], _, [], _, _, h => h
  | _ :: _, _, _ :: _, _, h, k => ⟨h.1, ListR.append h.2 k⟩
  | [], _, _ :: _, _, h, _ => h.elim
  | _ :: _, _, [], _, h, _ => h.elim
theorem ListR.length {α : Type} {R : Value → α → Prop} : ∀ {vs : List Value} {as : List α}, ListR R vs as → vs.length = as.length
  | [], [], _ => rfl
  | _ :: _, _ :: _, h => congrArg (· + 1) (ListR.length h.2)
  | [], _ :: _, h => h.elim
  | _ :: _, [], h => h.elim
theorem ListR.get {α : Type} {R : Value → α → Prop} : ∀ {vs : List Value} {as : List α} {j : Nat} {v : Value} {a : α}, ListR R vs as → vs[j]? = some v → as[j]? = some a → R v a
  | v :: vs, q :: qs, 0, _, _, h, e1, e2 => by
    rw [List.getElem?_cons_zero] at e1 e2
    cases e1; cases e2; exact h.1
  | v :: vs, q :: qs, j + 1, _, _, h, e1, e2 => by
    rw [List.getElem?_cons_succ] at e1 e2
    exact ListR.get h.2 e1 e2
  | [], [], j, _, _, _, e1, _ => by simp at e1
  | [], _ :: _, _, _, _, h, _, _ => h.elim
  | _ :: _, [], _, _, _, h, _, _ => h.elim
theorem ListR.has {α : Type} {R : Value → α → Prop} {vs : List Value} {as : List α} {j : Nat} {v : Value} (h : ListR R vs as) (e : vs[j]? = some v) : ∃ a, as[j]? = some a ∧ R v a := by
  have hj : j < vs.length := (List.getElem?_eq_some_iff.mp e).1
  have hj' : j < as.length := h.length ▸ hj
  exact ⟨as[j], List.getElem?_eq_getElem hj', h.get e (List.getElem?_eq_getElem hj')⟩
noncomputable abbrev Q5 := Int × Int × Int × Int × Int
/-- the ledger bears a rectangle (x, y, width, height, number) at v -/
inductive RectAt (led : List (Addr × Obj)) (v : Value) (r : Q5) : Prop
  | mk (a d : Addr) (hs : Int × Int × Int × Int × Int) (ks : Tok × Tok × Tok × Tok × Tok) (t1 t2 t3 t4 t5 : Tok) (e : v = .ref a) (m1 : (a, instObj 203 d) ∈ led) (m2 : (d, dictOf (secDict (.int r.2.2.1 t1) (.int r.2.2.2.1 t2) (.int r.1 t3) (.int r.2.1 t4) (.int r.2.2.2.2 t5) hs ks) 5) ∈ led)
theorem RectAt.mono {led led' : List (Addr × Obj)} (hs : ∀ p ∈ led, p ∈ led') {v : Value} {q : Q5} (h : RectAt led v q) : RectAt led' v q := by
  obtain ⟨a, d, h1, k1, t1, t2, t3, t4, r, e, m1, m2⟩ := h
  exact ⟨a, d, h1, k1, t1, t2, t3, t4, r, e, hs _ m1, hs _ m2⟩
/-- .. a tuple of five ints -/
inductive TupAt5 (led : List (Addr × Obj)) (v : Value) (r : Q5) : Prop
  | mk (t : Addr) (t1 t2 t3 t4 t5 : Tok) (e : v = .ref t) (m1 : (t, tupO [.int r.1 t1, .int r.2.1 t2, .int r.2.2.1 t3, .int r.2.2.2.1 t4, .int r.2.2.2.2 t5]) ∈ led)
theorem TupAt5.mono {led led' : List (Addr × Obj)} (hs : ∀ p ∈ led, p ∈ led') {v : Value} {q : Q5} (h : TupAt5 led v q) : TupAt5 led' v q := by
  obtain ⟨t, t1, t2, t3, t4, t5, e, m⟩ := h
  exact ⟨t, t1, t2, t3, t4, t5, e, hs _ m⟩
section
variable {w : World} {dp un : Nat} {gd : Option (List Code)} {env : Env} {outer : List Env} {A₀ : Around} {base h₀ : Heap} {L : Addr} {m : Str → Option Value} {p : Program} {loose : List Str} {mean : ExcName → Option Value} {mg mb : Str → Option Value} {news : List (Addr × Obj)} {s : Shared} {Q E : Value → Shared → Prop}
theorem rect_list_any {C b db ls lr sf : Addr} {Wb Hb rotv : Value} {hb kb : _} {rects : List Value} {rs : List Q5} {nr : Nat}
    (hC : C ∈ BX) (Cc : Cx 12 w dp un env outer A₀ base h₀ L m p loose mean mg mb s.heap) (N : News h₀ L s.heap news)
    (h1 : (b, instObj C db) ∈ news) (h2 : (db, dictOf (boxDict Wb Hb rotv lr sf ls hb kb) 8) ∈ news) (h3 : (lr, listOf rects.toArray nr) ∈ news) (hr : ListR (RectAt news) rects rs) (hsz : rects.length ≤ 900) (hab : AllBare s.gens)
    (ret : ∀ S ts c own h' tk' gs' dr', AllBare gs' → Fr h₀ L h' m → News h₀ L h' ((S, lstO ts c) :: (own ++ news)) → ListR (TupAt5 own) ts rs → (∀ q ∈ own, ∀ r ∈ news, @LT.lt Nat _ r.1 q.1) → (∀ r ∈ news, @LT.lt Nat _ r.1 S) → Q (.ref S) { s with heap := h', gens := gs', drawn := dr', toks := tk' }) :
    wpAny (model PW w) (AR dp un gd env outer) (call (.ref 280) [.ref b]) Q E s := by
  obtain ⟨B, F, X, T, hf, hk, hdp, hun⟩ := Cc
  refine wpAny_call ?_
  k_dflt kts_go
  k_steps
  rename Fr _ _ _ _ => F₀
  rename News _ _ _ _ => N₁
  rename Below _ _ _ _ => B₁
  rename Top _ _ _ _ _ _ => T₁
  rename Fr h₀ L _ m => FG₁
  rename Frag.In _ _ => X₁
  rename Fr _ _ _ _ => F₁
  rename ∀ p ∈ news, _ => hS
  rename_i g₁ L₁ _ S₁ _ _
  have hm1 : ∃ m₁, m₁ (Str.ofString "rectangle_list") = some (.ref S₁) ∧ Fr g₁ L₁ _ m₁ := ⟨_, rfl, F₁⟩
  refine ⟨wpAny_For ?_⟩
  k_steps
  clear F₁
  obtain ⟨m₁, hm1, F₁⟩ := hm1
  have hrS : ListR (RectAt ((S₁, lstO [] 0) :: news)) rects rs := hr.imp fun _ _ => RectAt.mono fun _ h => .tail _ h
  refine owit_iter F₁ X₁ (InstAt.of_news N₁ (.tail _ h1) (.tail _ h2)) (bx_miter hC) (by k_is) ?_
  refine wpAny_call ?_
  refine y_call F₁ X₁ N₁ T₁ (by k_is) (by k_is) (by k_room) (BindsTo.of_eq rfl) (locs rfl) rfl rfl rfl (by decide) ?_
  intro C₁ oC a₁ oa h₂ tk₂ F₂ N₂ hoC hoa hlt hLC hCa
  have hrl := hr.length
  unfold OwitIt
  refine wpAny_specialOf (hoa.at (N₂ _ (.head _)).1).typeIs slot_gen_next.lookup ?_
  refine y_for (s := s) (tg := Str.ofString "r") (m₁ := m₁) (h₁ := h₂) (gens₁ := s.gens) (lr := lr) (vs := rects) (nr := nr) (fz := news) (led := (S₁, lstO [] 0) :: news) (oC := oC) (oa := oa)
    (fun i led m' => ∃ own ts c, led = (S₁, lstO ts c) :: (own ++ news) ∧ ListR (TupAt5 own) ts (rs.take i) ∧ (∀ q ∈ own, ∀ r ∈ news, @LT.lt Nat _ r.1 q.1) ∧ (∀ q ∈ own, @LT.lt Nat _ S₁ q.1) ∧ m' (Str.ofString "rectangle_list") = some (.ref S₁))
    F₂ X₁ T₁ rfl (by k_room) rfl rfl rfl rfl rfl (by decide) (fun _ => rfl) hoC hoa N₂ ⟨[], [], 0, rfl, trivial, (fun q hq => nomatch hq), (fun q hq => nomatch hq), hm1⟩ ?hl h3 ?hne hLC (Nat.ne_of_lt hCa) hab ?hit ?turn ?done
  case hl =>
    rintro i led m' ⟨own, ts, c, rfl, _⟩ q hq
    exact .tail _ (List.mem_append_right _ hq)
  case hne => exact fun q hq => ⟨Nat.ne_of_lt (hlt q hq), Nat.ne_of_lt (Nat.lt_trans (hlt q hq) hCa)⟩
  case hit =>
    intro A g led' s Q hF hX hT hN hsub hq
    have v1 := hsub _ h1
    have v2 := hsub _ h2
    k_steps
    exact hq _ _ (by k_asm) (by k_asm)
  case turn =>
    rintro i v gl led m' h' tk' gs' dr' hv ⟨own, ts, c, rfl, hts, ho1, ho2, hmr⟩ F' N' hap
    obtain ⟨r5, hr5, a, d, hs, ks, t1, t2, t3, t4, t5, rfl, n1, n2⟩ := hr.has hv
    have hrest : ∀ p ∈ gl ++ (own ++ news), p.1 ≠ S₁ := fun p hp => by
      rcases List.mem_append.mp hp with hp | hp
      · exact Ne.symm (hap _ (.head _) p hp)
      rcases List.mem_append.mp hp with hp | hp
      · exact Nat.ne_of_gt (ho2 p hp)
      · exact Nat.ne_of_lt (hS p hp)
    have hin : ∀ p ∈ news, p ∈ gl ++ (own ++ news) := fun p hp => List.mem_append_right _ (List.mem_append_right _ hp)
    have N2 : News g₁ L₁ h' ((S₁, listOf ts.toArray c) :: (gl ++ (own ++ news))) := fun q hq => N' q (by simp only [List.mem_cons, List.mem_append] at hq ⊢; grind)
    have hback : ∀ t o S o', ∀ q ∈ gl ++ (((S, o') : Addr × Obj) :: (((t, o) :: own) ++ news)), q ∈ (t, o) :: (S, o') :: (gl ++ (own ++ news)) := fun t o S o' q hq => by simp only [List.mem_cons, List.mem_append, List.cons_append] at hq ⊢; grind
    obtain ⟨m2, hm2, hm3, F2⟩ : ∃ m2, m2 (Str.ofString "r") = some (.ref a) ∧ m2 (Str.ofString "rectangle_list") = some (.ref S₁) ∧ Fr g₁ L₁ h' m2 := ⟨_, if_pos rfl, (if_neg (by decide)).trans hmr, F'⟩
    have htl : ts.length ≤ 900 := by
      rw [hts.length, List.length_take]; omega
    have hgl : ∀ q ∈ gl, q ∈ gl ++ (own ++ news) := fun q hq => List.mem_append_left _ hq
    have hon : ∀ q ∈ own ++ news, q ∈ gl ++ (own ++ news) := fun q hq => List.mem_append_right _ hq
    have v1 := hin _ n1
    have v2 := hin _ n2
    clear F' N' hr hrS
    generalize hrest' : gl ++ (own ++ news) = rest at N2 hrest hin hback hgl hon v1 v2
    k_steps
    rename Fr _ _ _ _ => Fz
    rename News _ _ _ _ => Nz
    rename_i D' _ l1 _
    rw [List.push_toArray] at Nz
    have hD : ∀ q ∈ rest, @LT.lt Nat _ q.1 D' := fun q hq => ktn_ltOf l1.2 q hq
    refine ⟨⟨rfl, _, m2, _, _, rfl, Fz, fun q hq => Nz q (hback D' (tupO [.int r5.1 t3, .int r5.2.1 t4, .int r5.2.2.1 t1, .int r5.2.2.2.1 t2, .int r5.2.2.2.2 t5]) S₁ (lstO (ts ++ [.ref D']) (c + 1)) q hq), ⟨_, ts ++ [.ref D'], c + 1, rfl, ?_, ?_, ?_, hm3⟩, ?_⟩⟩
    · have e : rs.take (i + 1) = rs.take i ++ [r5] := by rw [List.take_add_one, hr5]; rfl
      rw [e]
      exact (hts.imp fun _ _ => TupAt5.mono fun _ h => .tail _ h).append ⟨⟨D', t3, t4, t1, t2, t5, rfl, .head _⟩, trivial⟩
    · intro q hq r hr
      rcases List.mem_cons.mp hq with rfl | hq
      · exact hD r (hin _ hr)
      · exact ho1 q hq r hr
    · intro q hq
      rcases List.mem_cons.mp hq with rfl | hq
      · exact l1.1
      · exact ho2 q hq
    · intro q hq r hr
      rcases List.mem_cons.mp hq with rfl | hq
      · exact hap (S₁, lstO ts c) (.head _) r hr
      rcases List.mem_cons.mp hq with rfl | hq
      · exact Nat.ne_of_gt (hD r (hgl r hr))
      · exact hap q (.tail _ hq) r hr
  case done =>
    rintro led m' h' tk' gs' dr' ⟨own, ts, c, rfl, hts, ho1, ho2, hmr⟩ F' N' hab'
    k_steps
    rename Fr _ _ _ _ => Fz
    rename News _ _ _ _ => Nz
    obtain ⟨F₀, oL, _, N₀⟩ := unbase FG₁ Fz Nz
    refine ret S₁ ts c own _ _ gs' dr' hab' F₀ (cb_drop N₀ fun q hq => .tail _ hq) ?_ ho1 hS
    rwa [hrl, List.take_length] at hts
end
end Mine
namespace Mine
theorem ne_of_allLt {d : Addr} {l : List (Addr × Obj)} (h : AllLt d l) : ∀ q ∈ l, q.1 ≠ d := by
  induction l with
  | nil => exact List.forall_mem_nil _
  | cons p r ih => exact List.forall_mem_cons.mpr ⟨fun e => absurd (e ▸ h.1) (Nat.lt_irrefl _), ih h.2⟩
theorem hold_addsec {M : Model} {A : Around} {E : Value → Shared → Prop} {s : Shared} {Q : Value → Shared → Prop} {vs : List Value} (h : Hold (wpAny M A (call (.ref 330) vs) Q E s)) : wpAny M A (call (.ref 330) vs) Q E s := h.get
theorem sup_eval {M : Model} {A : Around} {E : Value → Shared → Prop} {s : Shared} {env : Env} {Q : Value → Shared → Prop} {id name : Str} {p1 p2 apos pos : Pos} {a : Expr} {as args : List Expr} {kws keywords : List Keyword}
    (h : wpAny M A (eval (.Call (.Name id p1) (a :: as) kws p2) env) (fun ov s₁ => Hold (wpAny M A (methodCall (.Call (.Name id p1) (a :: as) kws p2) name apos pos env ov (args.length + keywords.length) (backTo pos (starEach args env)) (backToKw pos (keywordEach keywords env))) Q E s₁)) E s) :
    wpAny M A (eval (.Call (.Attribute (.Call (.Name id p1) (a :: as) kws p2) name apos) args keywords pos) env) Q E s := by
  show wpAny M A (attributeBase (.Call (.Name id p1) (a :: as) kws p2) name env (eval (.Call (.Name id p1) (a :: as) kws p2) env) >>= fun ov => standAt apos.atName >>= fun _ => methodCall (.Call (.Name id p1) (a :: as) kws p2) name apos pos env ov (args.length + keywords.length) (backTo pos (starEach args env)) (backToKw pos (keywordEach keywords env))) Q E s
  refine wpAny_bind (wpAny_mono (show wpAny M A (attributeBase _ _ _ _) _ _ _ from h) (fun ov s₁ h₁ => ?_) fun _ _ e => e)
  exact wpAny_bind (wpAny_standAt h₁.get)
/-- a call with stars: its positional values, its keywords out of one mapping -/
theorem call_star {M : Model} {A : Around} {E : Value → Shared → Prop} {s : Shared} {Q : Value → Shared → Prop} {pos : Pos} {f : Value} {first : List Value} {x1 : Sem Value} {a2 : Bool × Sem Value} {args : List (Bool × Sem Value)} {keywords : List (Option Str × Sem Value)}
    (hkw : keywords.all (·.1.isSome) = false) (hany : (((false, x1) :: a2 :: args).any (·.1) || keywords.any (·.1.isNone)) = true)
    (h : wpAny M A (spliced ((false, x1) :: a2 :: args)) (fun vs s₁ => Hold (wpAny M A (mergedKeywords f keywords) (fun d s₂ => wpAny M A (keywordsIn f d) (fun kw s₃ => wpAny M A (keeperOf f) (fun k s₄ => k = .boundFrame ∧ wpAny M A (call f (first ++ vs) kw) Q E s₄) E s₃) E s₂) E s₁)) E s) :
    wpAny M A (callWith pos f first ((false, x1) :: a2 :: args) keywords) Q E s := by
  unfold callWith
  have hev : wpAny M A (evalArgs f true ((false, x1) :: a2 :: args) keywords) (fun a s₃ => wpAny M A (keeperOf f) (fun k s₄ => k = .boundFrame ∧ wpAny M A (call f (first ++ a.pos) a.kw) Q E s₄) E s₃) E s := by
    unfold evalArgs
    show wpAny M A (spliced ((false, x1) :: a2 :: args) >>= _) _ _ _
    refine wpAny_bind (wpAny_mono h (fun vs s₁ h₁ => ?_) fun _ _ e => e)
    refine wpAny_holding ?_
    simp only [hkw, Bool.false_eq_true, if_false]
    refine wpAny_bind (wpAny_mono h₁.get (fun d s₂ h₂ => ?_) fun _ _ e => e)
    exact wpAny_bind (wpAny_pure (wpAny_bind (wpAny_holding (wpAny_mono h₂ (fun kw s₃ h₃ => wpAny_pure h₃) fun _ _ e => e))))
  refine wpAny_bind (wpAny_holding (wpAny_mono hev (fun a s₁ h₁ => wpAny_bind (wpAny_standAt ?_)) fun _ _ x => x))
  rw [hany]
  refine wpAny_bind (wpAny_mono h₁ (fun k s₂ h₂ => ?_) fun _ _ e => e)
  obtain ⟨rfl, h₂⟩ := h₂
  exact wpAny_bind (wpAny_mono (wpAny_operating h₂) (fun r s₂ hr => wpAny_bind (wpAny_holding (wpAny_point (wpAny_pure hr)))) fun _ _ x => x)
theorem call_star2 {M : Model} {A : Around} {E : Value → Shared → Prop} {s : Shared} {Q : Value → Shared → Prop} {pos p2 : Pos} {f : Value} {first : List Value} {es : List Expr} {env : Env} {x1 : Sem Value} {a2 : Bool × Sem Value} {args : List (Bool × Sem Value)} {keywords : List (Option Str × Sem Value)}
    (he : backTo p2 (starEach es env) = (false, x1) :: a2 :: args) (hkw : keywords.all (·.1.isSome) = false) (hany : (((false, x1) :: a2 :: args).any (·.1) || keywords.any (·.1.isNone)) = true)
    (h : wpAny M A (spliced (backTo p2 (starEach es env))) (fun vs s₁ => Hold (wpAny M A (mergedKeywords f keywords) (fun d s₂ => wpAny M A (keywordsIn f d) (fun kw s₃ => wpAny M A (keeperOf f) (fun k s₄ => k = .boundFrame ∧ wpAny M A (call f (first ++ vs) kw) Q E s₄) E s₃) E s₂) E s₁)) E s) :
    wpAny M A (callWith pos f first (backTo p2 (starEach es env)) keywords) Q E s := by
  rw [he] at h ⊢
  exact call_star hkw hany h
section
variable {prog : Program} {w : World} {A : Around} {s : Shared} {h₀ : Heap} {L : Addr} {m : Str → Option Value} {news : List (Addr × Obj)} {Q E : Value → Shared → Prop} {K : Frag}
/-- super(D, x) -/
theorem super_mk {D x C : Addr} {oD ox : Obj} {odx : Option Obj} {cdD : ClassData} (F : Fr h₀ L s.heap m) (X₀ : K.In h₀) (N : News h₀ L s.heap news) (I : InstAt s.heap x ox C odx) (hD : K.lookup D = some oD) (hDt : oD.data = .cls cdD) (hsub : mroIn K C (.ref D) = some true)
    (h : ∀ so h', Fr h₀ L h' m → News h₀ L h' ((so, ks_superObj D x C) :: news) → (∀ p ∈ news, p.1 < so) → Q (.ref so) { s with heap := h' }) : wpAny (model prog w) A (call (.type "super") [.ref D, .ref x]) Q E s := by
  have X : K.In s.heap := X₀.keeps F.keep
  obtain ⟨hh, g, d, t, os⟩ := s
  refine ks_wpAny_call_super (X _ _ hD) hDt I.at_ I.cls (fun c e => ?_) (looks_mroIn X hsub) (fun h' e k => ?_)
  · have := I.no
    unfold notCls at this
    rw [e] at this
    exact Bool.noConfusion this
  · obtain ⟨F', N', l'⟩ := ks_newsPush (s := ⟨hh, g, d, t, os⟩) F N rfl e k
    exact h _ _ F' N' l'
/-- ** of an empty mapping -/
theorem merge_none {s₂ : Shared} {d dk : Addr} {n₀ n₁ : Nat} {Q : Unit → Shared → Prop} (hT : s₂.TypeIs (.ref dk) "dict") (hd : s₂.heap.get? dk = some { cls := .type "dict", data := .dict #[] n₀ }) (hn : s₂.heap.get? d = some { cls := .type "dict", data := .dict #[] n₁ }) (hlo : (dk == sysModules) = false) (h : Q () s₂) :
    wpAny (model prog w) A (mergeMapping d (.ref dk) true) Q E s₂ := by
  have he : ∀ {a : Addr} {n : Nat} {Q' : Array DictEntry → Shared → Prop} {E' : Value → Shared → Prop}, s₂.heap.get? a = some { cls := .type "dict", data := .dict #[] n } → Q' #[] s₂ →
      wpAny (model prog w) A (dictEntries a) Q' E' s₂ := fun e q => by
    unfold dictEntries
    exact wpAny_bind (wpAny_loadPart e (wpAny_pure q))
  unfold mergeMapping
  refine wpAny_bind (wpAny_isInstance hT PySem.F.sub_dict_dict ?_)
  rw [if_pos rfl]
  refine wpAny_bind (wpAny_specialOf hT PySem.F.slot_dict_iter.lookup ?_)
  refine wpAny_bind (wpAny_pure ?_)
  rw [show (some (Value.builtin "dict.__iter__") == some (Value.builtin "dict.__iter__")) = true from beq_self_eq_true _]
  dsimp only
  rw [hlo, if_neg Bool.false_ne_true]
  refine wpAny_bind (he hn ?_)
  rw [if_pos (show (#[] : Array DictEntry).isEmpty = true from rfl)]
  refine wpAny_bind (he hd ?_)
  refine wpAny_bind ?_
  rw [show forIn (m := Sem) (#[] : Array DictEntry) PUnit.unit _ = pure PUnit.unit from rfl]
  refine wpAny_pure ?_
  refine wpAny_bind (he hd ?_)
  refine wpAny_bind ?_
  unfold dictEpoch
  refine wpAny_bind (wpAny_loadPart hd (wpAny_pure ?_))
  refine wpAny_bind ?_
  show wpAny _ _ (pure PUnit.unit) _ _ _
  exact wpAny_pure (wpAny_pure h)
theorem kw_empty {x : Sem Value} {f : Value} {dk : Addr} {Q : Addr → Shared → Prop} (hl : s.heap.NoLimit) (hx : wpAny (model prog w) A x (fun v s₁ => ∃ t, s₁ = { s with heap := s.heap.push { cls := .type "dict", data := .dict #[] }, toks := t } ∧ v = .ref dk) E { s with heap := s.heap.push { cls := .type "dict", data := .dict #[] } })
    (ho : s.heap.get? dk = some { cls := .type "dict", data := .dict #[] n₀ }) (hlo : (dk == sysModules) = false)
    (h : ∀ t, Q s.heap.objs.size { s with heap := s.heap.push { cls := .type "dict", data := .dict #[] }, toks := t }) :
    wpAny (model prog w) A (mergedKeywords f [(none, x)]) Q E s := by
  unfold mergedKeywords
  refine wpAny_bind (wpAny_alloc ?_)
  refine wpAny_bind (wpAny_holding ?_)
  refine wpAny_bind ?_
  rw [List.forIn_cons]
  refine wpAny_bind ?_
  refine wpAny_bind ?_
  show wpAny _ _ (pure ()) _ _ _
  refine wpAny_pure ?_
  refine wpAny_bind (wpAny_mono hx (fun v s₁ h₁ => ?_) fun _ _ e => e)
  obtain ⟨t, rfl, rfl⟩ := h₁
  refine wpAny_bind (wpAny_onRaise ?_)
  refine wpAny_holding (wpAny_tryCatch (wpAny_onRaise ?_))
  have hT : (⟨s.heap.push { cls := .type "dict", data := .dict #[] }, s.gens, s.drawn, t, s.os⟩ : Shared).TypeIs (.ref dk) "dict" := ⟨_, Heap.get?_push_of_some _ ho, rfl⟩
  have hd : (s.heap.push { cls := .type "dict", data := .dict #[] }).get? dk = some { cls := .type "dict", data := .dict #[] n₀ } := Heap.get?_push_of_some _ ho
  have hn : (s.heap.push { cls := .type "dict", data := .dict #[] }).get? s.heap.objs.size = some { cls := .type "dict", data := .dict #[] } := Heap.get?_push_size _ rfl
  refine merge_none hT hd hn hlo (wpAny_pure ?_)
  dsimp only
  rw [show ∀ b f, forIn (m := Sem) ([] : List (Option Str × Sem Value)) b f = (pure b : Sem (List (Str × Sem Value))) from fun _ _ => rfl]
  refine wpAny_pure ?_
  show wpAny _ _ (pure ()) _ _ _
  exact wpAny_pure (wpAny_pure (h t))
theorem kw_none {f : Value} {d : Addr} {n : Nat} {Q : List (Str × Value) → Shared → Prop} (hd : s.heap.get? d = some { cls := .type "dict", data := .dict #[] n }) (h : Q [] s) : wpAny (model prog w) A (keywordsIn f d) Q E s := by
  unfold keywordsIn dictEntries
  refine wpAny_bind (wpAny_bind (wpAny_loadPart hd (wpAny_pure ?_)))
  refine wpAny_bind ?_
  rw [show ∀ b g, forIn (m := Sem) (#[] : Array DictEntry) b g = (pure b : Sem (List (Str × Value))) from fun _ _ => rfl]
  exact wpAny_pure (wpAny_pure h)
theorem keeper_meth {q f2 x : Addr} {of : Obj} {fd : FuncData} {Q : Keeper → Shared → Prop} (hq : s.heap.get? q = some (methodObj (.ref f2) (.ref x))) (hf : s.heap.get? f2 = some of) (hd : of.data = .func fd) (h : Q .boundFrame s) : wpAny (model prog w) A (keeperOf (.ref q)) Q E s := by
  unfold keeperOf
  refine wpAny_bind (wpAny_load hq ?_)
  show wpAny _ _ (load f2 >>= _) _ _ _
  refine wpAny_bind (wpAny_load hf ?_)
  rw [hd]
  exact wpAny_pure h
/-- an attribute of a super object that is a def of a class further on -/
theorem sup_attr {so x D C f2 : Addr} {ox : Obj} {odx : Option Obj} {name : Str} (F : Fr h₀ L s.heap m) (X₀ : K.In h₀) (N : News h₀ L s.heap news) (hso : (so, ks_superObj D x C) ∈ news) (I : InstAt s.heap x ox C odx) (ho : nsIn K cStatics "thirdparty.any" = some none)
    (hm : ks_superIn K C D name = some (some (.ref f2))) (ht : typeIn K (.ref f2) = some (.type "function")) (hn : (name == ("__class__" : Str)) = false)
    (h : ∀ q h', Fr h₀ L h' m → News h₀ L h' ((q, methodObj (.ref f2) (.ref x)) :: news) → (∀ p ∈ news, p.1 < q) → Q (.ref q) { s with heap := h', toks := s.toks + 1 }) : wpAny (model prog w) A (getAttr (.ref so) name true) Q E s := by
  have X : K.In s.heap := X₀.keeps F.keep
  obtain ⟨hh, g, d, t, os⟩ := s
  cases hc : clsIn K C with
  | none => unfold ks_superIn at hm; rw [hc] at hm; cases hm
  | some cd =>
    unfold ks_superIn at hm
    rw [hc] at hm
    obtain ⟨of, hof, hofc⟩ : ∃ of, hh.get? f2 = some of ∧ of.cls = .type "function" := by
      have ht' : (K.lookup f2).map (·.cls) = some (.type "function") := ht
      cases z : K.lookup f2 with
      | none => rw [z] at ht'; cases ht'
      | some of => rw [z] at ht'; exact ⟨of, X _ _ z, Option.some.inj ht'⟩
    have hsoH := (N _ hso).1
    have hlk := PySem.F.ks_slot_super_ga.lookup
    have hT : ∀ t', (⟨hh, g, d, t', os⟩ : Shared).TypeIs (.ref so) "super" := fun _ => ⟨_, hsoH, rfl⟩
    unfold getAttr getAttrBy
    refine wpAny_bind (wpAny_mkText (wpAny_holding (wpAny_bind (wpAny_typeOf (hT _) (wpAny_bind (wpAny_of_eq hlk ?_))))))
    show wpAny _ _ (getAttrByItsOwn (.ref so) (.str name t) (.type "super") (.builtin "super.__getattribute__") true true) _ _ _
    unfold getAttrByItsOwn hookBefore callGetattribute boundAndCalled
    refine wpAny_bind (wpAny_of_eq (show (if onTheHeap (.type "super") then typeLookup (.type "super") "__getattr__" else pure none) = pure none from rfl) ?_)
    refine wpAny_bind (wpAny_attempt (wpAny_holding ?_))
    show wpAny _ _ (bindSpecial (.builtin "super.__getattribute__") (.ref so) >>= _) _ _ _
    refine wpAny_bind (wpAny_of_eq (PySem.F.ks_slot_super_ga.bind _) ?_)
    refine wpAny_mono (Q := fun v s' => v = .ref hh.objs.size ∧ s' = ⟨hh.push { cls := .type "method", data := .fields #[.ref f2, .ref x] }, g, d, t + 1, os⟩) (E := fun _ _ => False)
      (wpAny_call_entry PySem.F.ks_slot_super_ga (hT _) PySem.F.ks_entry_super_ga (ks_wpAny_super_ga hsoH (looks_opaque X ho) (l₀ := cd.mro) (fun A Q E s k q => wpAny_bind ((looks_clsIn X hc) A _ E s k (wpAny_pure q))) rfl X hm hof hofc (ks_ne X I hc) hn ⟨_, rfl, rfl, rfl⟩) (PySem.F.ks_gaArgs_super _ _)) (fun v s' hv => ?_) fun _ _ z => z.elim
    obtain ⟨rfl, rfl⟩ := hv
    refine wpAny_pure ?_
    obtain ⟨F', N', l'⟩ := ks_newsPush (s := ⟨hh, g, d, t, os⟩) (o := methodObj (.ref f2) (.ref x)) F N rfl (Heap.get?_push_at rfl rfl) (fun b o e => Heap.get?_push_of_some _ e)
    exact h _ _ F' N' l'
theorem sup_call {o : Expr} {env : Env} {apos pos : Pos} {n : Nat} {args : List (Bool × Sem Value)} {keywords : List (Option Str × Sem Value)} {so x D C f2 : Addr} {ox : Obj} {odx : Option Obj} {name : Str} (hform : methodCallForm n args keywords = false)
    (F : Fr h₀ L s.heap m) (X₀ : K.In h₀) (N : News h₀ L s.heap news) (hso : (so, ks_superObj D x C) ∈ news) (I : InstAt s.heap x ox C odx) (ho : nsIn K cStatics "thirdparty.any" = some none)
    (hm : ks_superIn K C D name = some (some (.ref f2))) (ht : typeIn K (.ref f2) = some (.type "function")) (hn : (name == ("__class__" : Str)) = false)
    (h : ∀ q h', Fr h₀ L h' m → News h₀ L h' ((q, methodObj (.ref f2) (.ref x)) :: news) → (∀ p ∈ news, p.1 < q) → wpAny (model prog w) A (callWith pos (.ref q) [] args keywords) Q E { s with heap := h', toks := s.toks + 1 }) :
    wpAny (model prog w) A (methodCall o name apos pos env (.ref so) n args keywords) Q E s := by
  unfold methodCall
  rw [hform]
  refine wpAny_bind (wpAny_holding ?_)
  show wpAny _ _ (getAttr (.ref so) name true >>= fun v => pure (v, [])) _ _ _
  refine wpAny_bind (sup_attr F X₀ N hso I ho hm ht hn fun q h' F' N' l => wpAny_pure ?_)
  show wpAny _ _ (pure pos >>= _) _ _ _
  exact wpAny_bind (wpAny_pure (h q h' F' N' l))
end
section
variable {w : World} {C : Addr} (hC : C ∈ BX)
include hC
theorem bx_sinit : ks_superIn (Mine.K w.params) C 391 (Str.ofString "__init__") = some (some (.ref 222)) := by
  have z := bx_all (P := fun C => match ks_superIn (Mine.K w.params) C 391 (Str.ofString "__init__") with | some (some (.ref g)) => Nat.beq g 222 | _ => false) (by kernel_rfl) hC
  split at z
  · rename_i g e
    rw [e, Nat.eq_of_beq_eq_true z]
  · cases z
theorem bx_sreset : ks_superIn (Mine.K w.params) C 391 (Str.ofString "reset") = some (some (.ref 301)) := by
  have z := bx_all (P := fun C => match ks_superIn (Mine.K w.params) C 391 (Str.ofString "reset") with | some (some (.ref g)) => Nat.beq g 301 | _ => false) (by kernel_rfl) hC
  split at z
  · rename_i g e
    rw [e, Nat.eq_of_beq_eq_true z]
  · cases z
theorem bx_mro : mroIn (Mine.K w.params) C (.ref 391) = some true := by
  have z := bx_all (P := fun C => match mroIn (Mine.K w.params) C (.ref 391) with | some true => true | _ => false) (by kernel_rfl) hC
  split at z
  · assumption
  · cases z
end
end Mine
local macro_rules | `(tactic| ks_is) => `(tactic| with_reducible first | exact Mine.bx_sinit (by assumption) | exact Mine.bx_sreset (by assumption))
local macro_rules | `(tactic| k_is) => `(tactic| with_reducible exact Mine.bx_mro (by assumption))
local macro_rules | `(tactic| walk_at "call type:super") => `(tactic| (k_here; k_dflt (refine' Mine.super_mk ?F ?X ?N ?I ?hD ?hDt ?hs ?_; (case F | X | N => k_asm); (case I => k_inst); (case hD => k_is); (case hDt => exact rfl); (case hs => k_is); k_whole); intro so' h' F' N' l1; (try k_lt l1)))
local macro_rules | `(tactic| walk_at "eval Name") => `(tactic| (k_here; (with_reducible show wpAny _ _ (eval (PySem.Expr.Name (Str.ofString "super") _) _) _ _ _); k_dflt (refine' nameX_B ?F ?X ?T ?e PyProof.Rows.Boot.«super» ?n ?_; (case F => k_asm); (case X => k_in); (case T => exact topRead_of (by k_asm)); (case e => k_is); (case n => decide); k_whole)))
local macro_rules | `(tactic| walk_at "mine.mc_enter") => return Mine.sEnter "code_clos" false true
local macro_rules | `(tactic| walk_at "mine.mc_both") => Mine.sBoth "kpc_both"
local macro_rules | `(tactic| walk_at "mine.mp_both") => Mine.sBoth "kp_both"
local macro_rules | `(tactic| k_all) => `(tactic| (with_reducible refine Mine.ne_of_allLt ?_; (repeat (cases ‹_ ∧ _›)); with_reducible assumption))
local macro_rules | `(tactic| walk_at "call ref") => Mine.sHold "Mine.hold_addsec"
namespace Mine
section
variable {w : World} {dp un : Nat} {gd : Option (List Code)} {env : Env} {outer : List Env} {A₀ : Around} {base h₀ : Heap} {L : Addr} {m : Str → Option Value} {p : Program} {loose : List Str} {mean : ExcName → Option Value} {mg mb : Str → Option Value} {news : List (Addr × Obj)} {s : Shared} {Q E : Value → Shared → Prop}
noncomputable abbrev boxDict7 (W H rot : Value) (lr sf : Addr) (hs : Nat → Int) (ks : Nat → Tok) : List DictEntry :=
  [⟨hs 0, .str (Str.ofString "_merge") (ks 0), .bool false⟩, ⟨hs 1, .str (Str.ofString "width") (ks 1), W⟩, ⟨hs 2, .str (Str.ofString "height") (ks 2), H⟩, ⟨hs 3, .str (Str.ofString "rot") (ks 3), rot⟩,
    ⟨hs 4, .str (Str.ofString "rectangles") (ks 4), .ref lr⟩, ⟨hs 5, .str (Str.ofString "bid") (ks 5), .none⟩, ⟨hs 6, .str (Str.ofString "_surface") (ks 6), .ref sf⟩]
theorem reset_new {C x dx l0 sf : Addr} {Wi Hi : Int} {rotb : Value} {t1 t2 : Tok} {hb kb : _}
    (hC : C ∈ BX) (Cc : Cx 8 w dp un env outer A₀ base h₀ L m p loose mean mg mb s.heap)
    (N : News h₀ L s.heap ((x, instObj C dx) :: (dx, dictOf (boxDict7 (.int Wi t1) (.int Hi t2) rotb l0 sf hb kb) 7) :: news)) (hW : 0 < Wi) (hH : 0 < Hi)
    (hn : ∀ q ∈ news, q.1 ≠ dx) (hx : @LT.lt Nat _ dx x)
    (ret : ∀ ls lr sec ds q so hb' kb' hs ks t3 t4 t5 h' tk', Fr h₀ L h' m →
      News h₀ L h' ((ls, listOf [Value.ref sec].toArray 1) :: (sec, instObj 203 ds) :: (ds, dictOf (secDict (.int Wi t1) (.int Hi t2) (.int 0 t3) (.int 0 t4) (.int 0 t5) hs ks) 5) :: (lr, listOf #[] 0) ::
        (q, methodObj (.ref 301) (.ref x)) :: (so, ks_superObj 391 x C) :: (x, instObj C dx) :: (dx, dictOf (boxDict (.int Wi t1) (.int Hi t2) rotb lr sf ls hb' kb') 8) :: news) →
      @LT.lt Nat _ x so → @LT.lt Nat _ so q → @LT.lt Nat _ q lr → @LT.lt Nat _ lr ls → @LT.lt Nat _ ls ds → @LT.lt Nat _ ds sec → AllLt so news → Q .none { s with heap := h', toks := tk' }) :
    wpAny (model PW w) (AR dp un gd env outer) (call (.ref 388) [.ref x]) Q E s := by
  obtain ⟨B, F, X, T, hf, hk, hdp, hun⟩ := Cc
  refine wpAny_call ?_
  k_dflt (walk_at "mine.mc_enter")
  k_steps
  rename Fr _ _ _ _ => Fz
  rename News _ _ _ _ => Nz
  rename_i xs ds hs5 ks5 hz tz l9 l8 l7
  refine Hold.mk ?_
  refine add_section (hb := fun i => if i = 7 then PyData.keyHash w.params (Str.ofString "_sections") else hb i) (kb := fun i => if i = 7 then _ else kb i) hC ⟨by k_asm, Fz, by k_asm, by k_asm, rfl, rfl, by k_room, by k_units⟩ Nz (by decide) l8 l9 (by k_all) (by k_mem) (by k_mem) ?_
  intro t h5 tk5 F5 N5
  clear Fz Nz
  k_steps
  rename Fr _ _ _ _ => Fz
  rename News _ _ _ _ => Nz
  refine ret _ _ _ _ _ _ (fun i => if i = 7 then PyData.keyHash w.params (Str.ofString "_sections") else hb i) (fun i => if i = 7 then _ else kb i) _ _ _ _ _ _ _ Fz Nz ?_ ?_ ?_ ?_ ?_ ?_ ?_
  iterate 6 omega
  (repeat (cases ‹_ ∧ _›)); assumption
end
theorem hold_reset {M : Model} {A : Around} {E : Value → Shared → Prop} {s : Shared} {Q : Value → Shared → Prop} {vs : List Value} (h : Hold (wpAny M A (call (.ref 388) vs) Q E s)) : wpAny M A (call (.ref 388) vs) Q E s := h.get
end Mine
local macro_rules | `(tactic| walk_at "call ref") => Mine.sHold "Mine.hold_reset"
namespace Mine
section
variable {w : World} {dp un : Nat} {gd : Option (List Code)} {env : Env} {outer : List Env} {A₀ : Around} {base h₀ : Heap} {L : Addr} {m : Str → Option Value} {p : Program} {loose : List Str} {mean : ExcName → Option Value} {mg mb : Str → Option Value} {news : List (Addr × Obj)} {s : Shared} {Q E : Value → Shared → Prop}
theorem allLt_all {d : Addr} : ∀ {l : List (Addr × Obj)}, AllLt d l → ∀ q ∈ l, @LT.lt Nat _ q.1 d
  | [], _ => fun _ h => nomatch h
  | _ :: _, h => List.forall_mem_cons.mpr ⟨h.1, allLt_all h.2⟩
theorem box7 {h : Heap} {a b c : Addr × Obj} {x dx : Addr} {o : Obj} {W H rot : Value} {lr sf : Addr} {h0 h1 h2 h3 h4 h5 h6 : Int} {k0 k1 k2 k3 k4 k5 k6 : Tok}
    (N : News h₀ L h (a :: b :: c :: (x, o) :: (dx, dictOf [⟨h0, .str (Str.ofString "_merge") k0, .bool false⟩, ⟨h1, .str (Str.ofString "width") k1, W⟩, ⟨h2, .str (Str.ofString "height") k2, H⟩, ⟨h3, .str (Str.ofString "rot") k3, rot⟩,
    ⟨h4, .str (Str.ofString "rectangles") k4, .ref lr⟩, ⟨h5, .str (Str.ofString "bid") k5, .none⟩, ⟨h6, .str (Str.ofString "_surface") k6, .ref sf⟩] 7) :: news)) :
    ∃ hb kb, News h₀ L h ((x, o) :: (dx, dictOf (boxDict7 W H rot lr sf hb kb) 7) :: a :: b :: c :: news) :=
  ⟨fun i => [h0, h1, h2, h3, h4, h5, h6].getD i 0, fun i => [k0, k1, k2, k3, k4, k5, k6].getD i 0, cb_drop N (by
    intro q hq
    simp only [List.mem_cons] at hq ⊢
    rcases hq with rfl | rfl | hq | hq | hq | hq
    · simp
    · right; right; right; right; left; rfl
    · simp [hq]
    · simp [hq]
    · simp [hq]
    · simp [hq])⟩
theorem permP {α : Type} {x dx D C : α} {nw : List α} : ∀ q ∈ x :: dx :: D :: C :: nw, q ∈ D :: C :: x :: dx :: nw := perm_of [[D], [C], [x], [dx]] [2, 3, 0, 1] nw
theorem permP2 {α : Type} {ls lr x dx sec ds q so sf df l0 D C : α} {nw : List α} : ∀ z ∈ ls :: lr :: x :: dx :: sec :: ds :: ([q, so, sf, df, l0, D, C] ++ nw), z ∈ ls :: sec :: ds :: lr :: q :: so :: x :: dx :: sf :: df :: l0 :: D :: C :: nw := perm_of [[ls], [sec], [ds], [lr], [q], [so], [x], [dx], [sf], [df], [l0], [D], [C]] [0, 3, 6, 7, 1, 2, 4, 5, 8, 9, 10, 11, 12] nw
noncomputable def piBody : List Stmt := match inAt 5 0 with | .FunctionDef _ _ b _ _ _ _ _ _ _ => b | _ => []
noncomputable def piScope : Scope := match inAt 5 0 with | .FunctionDef _ _ _ _ _ _ s _ _ _ => s | _ => default
noncomputable def piAt (i : Nat) : Stmt := piBody.getD i (.Pass ⟨0, 0, 0, 0⟩)
noncomputable abbrev PIE (L : Addr) : Env := envOf (Str.ofString "PackingAlgorithm.__init__") piScope L 222 (.ref 221)
theorem pinit_a {C x dx : Addr} {Wi Hi : Int} {rotb : Bool} {t1 t2 tk0 : Tok} {hb0 : Int} {Q : Flow → Shared → Prop} {rest : List Stmt}
    (hC : C ∈ BX) (Cc : Cx 9 w dp un (PIE L) outer A₀ base h₀ L m p loose mean mg mb s.heap)
    (N : News h₀ L s.heap ((x, instObj C dx) :: (dx, dictOf [⟨hb0, .str (Str.ofString "_merge") tk0, .bool false⟩] 1) :: news)) (hW : 0 < Wi) (hH : 0 < Hi)
    (hn : ∀ q ∈ news, q.1 ≠ dx) (hx : @LT.lt Nat _ dx x)
    (e1 : m (Str.ofString "self") = some (.ref x)) (e2 : m (Str.ofString "width") = some (.int Wi t1)) (e3 : m (Str.ofString "height") = some (.int Hi t2)) (e4 : m (Str.ofString "rot") = some (.bool rotb)) (e5 : m (Str.ofString "bid") = some .none)
    (ret : ∀ l0 sf df hb kb u0 u1 hf kf h' tk', Fr h₀ L h' m → News h₀ L h' ((x, instObj C dx) :: (dx, dictOf (boxDict7 (.int Wi t1) (.int Hi t2) (.bool rotb) l0 sf hb kb) 7) :: (sf, instObj 203 df) :: (df, dictOf (secDict (.int Wi t1) (.int Hi t2) (.int 0 u0) (.int 0 u1) .none hf kf) 5) :: (l0, listOf #[] 0) :: news) →
      (∀ q ∈ news, @LT.lt Nat _ q.1 l0) → @LT.lt Nat _ x l0 → @LT.lt Nat _ l0 df → @LT.lt Nat _ df sf → wpAny (model PW w) (AR dp un gd (PIE L) outer) (execs rest (PIE L)) Q E { s with heap := h', toks := tk' }) :
    wpAny (model PW w) (AR dp un gd (PIE L) outer) (execs (piAt 0 :: piAt 1 :: piAt 2 :: piAt 3 :: piAt 4 :: piAt 5 :: rest) (PIE L)) Q E s := by
  obtain ⟨B, F, X, T, -, -, hdp, hun⟩ := Cc
  have q0 : (piAt 0) = (piAt 0) := rfl
  (conv at q0 => rhs; whnf)
  rw [q0]
  clear q0
  have q1 : (piAt 1) = (piAt 1) := rfl
  (conv at q1 => rhs; whnf)
  rw [q1]
  clear q1
  have q2 : (piAt 2) = (piAt 2) := rfl
  (conv at q2 => rhs; whnf)
  rw [q2]
  clear q2
  have q3 : (piAt 3) = (piAt 3) := rfl
  (conv at q3 => rhs; whnf)
  rw [q3]
  clear q3
  have q4 : (piAt 4) = (piAt 4) := rfl
  (conv at q4 => rhs; whnf)
  rw [q4]
  clear q4
  have q5 : (piAt 5) = (piAt 5) := rfl
  (conv at q5 => rhs; whnf)
  rw [q5]
  clear q5
  unfold PIE at *
  have q9 : piScope = piScope := rfl
  (conv at q9 => rhs; whnf)
  rw [q9]
  clear q9
  k_steps
  rename Fr _ _ _ _ => Fz
  rename News _ _ _ _ => Nz
  rename_i l0 _ la _ _ sf df hf5 kf5 _ tz lf2 lf1' lf1 _
  obtain ⟨hb, kb, N2⟩ := box7 Nz
  exact ret l0 sf df hb kb _ _ hf5 kf5 _ _ Fz N2 (allLt_all la.2.2) la.1 lf1.1 lf2
theorem pinit {C x dx : Addr} {Wi Hi : Int} {rotb : Bool} {t1 t2 tk0 : Tok} {hb0 : Int}
    (hC : C ∈ BX) (Cc : Cx 10 w dp un env outer A₀ base h₀ L m p loose mean mg mb s.heap)
    (N : News h₀ L s.heap ((x, instObj C dx) :: (dx, dictOf [⟨hb0, .str (Str.ofString "_merge") tk0, .bool false⟩] 1) :: news)) (hW : 0 < Wi) (hH : 0 < Hi)
    (hn : ∀ q ∈ news, q.1 ≠ dx) (hx : @LT.lt Nat _ dx x)
    (ret : ∀ ls lr sec ds sf own hb' kb' hs ks t3 t4 t5 h' tk', Fr h₀ L h' m →
      News h₀ L h' ((ls, listOf [Value.ref sec].toArray 1) :: (lr, listOf #[] 0) :: (x, instObj C dx) :: (dx, dictOf (boxDict (.int Wi t1) (.int Hi t2) (.bool rotb) lr sf ls hb' kb') 8) ::
        (sec, instObj 203 ds) :: (ds, dictOf (secDict (.int Wi t1) (.int Hi t2) (.int 0 t3) (.int 0 t4) (.int 0 t5) hs ks) 5) :: (own ++ news)) →
      @LT.lt Nat _ x lr → @LT.lt Nat _ lr ls → @LT.lt Nat _ ls ds → @LT.lt Nat _ ds sec → (∀ q ∈ own, @LT.lt Nat _ x q.1 ∧ @LT.lt Nat _ q.1 lr) → (∀ q ∈ news, @LT.lt Nat _ q.1 lr) → Q .none { s with heap := h', toks := tk' }) :
    codeAny (model PW w) (AR dp un gd env outer) (.call (.ref 222) ⟨[.ref x, .int Wi t1, .int Hi t2, .bool rotb], []⟩)
      (fun r s' => match r with | .ok (.ret v) => Q v s' | .ok _ => False | .error e => E e s') s := by
  obtain ⟨B, F, X, T, hf, hk, hdp, hun⟩ := Cc
  k_dflt (walk_at "mine.mp_both")
  intro C' D' o' g' L' h' tk' l1 l2 lo' hs' fs' FG' F' N' B' X' T'
  k_lt l1
  have l2' : @LT.lt Nat _ C' D' := l2
  clear l2 hs' fs'
  obtain ⟨m2, e1, e2, e3, e4, e5, F2⟩ : ∃ m2, m2 (Str.ofString "self") = some (.ref x) ∧ m2 (Str.ofString "width") = some (.int Wi t1) ∧ m2 (Str.ofString "height") = some (.int Hi t2) ∧ m2 (Str.ofString "rot") = some (.bool rotb) ∧ m2 (Str.ofString "bid") = some .none ∧ Fr g' L' h' m2 := ⟨_, rfl, rfl, rfl, rfl, rfl, F'⟩
  clear F'
  k_lift B'
  have hxC : @LT.lt Nat _ x C' := l1.1
  have hnC := allLt_all l1.2.2
  have hdC : @LT.lt Nat _ dx C' := Nat.lt_trans hx hxC
  refine pinit_a (news := (D', o') :: (C', { cls := .type "tuple", data := .seq #[] }) :: news) hC ⟨by k_asm, F2, by k_asm, by k_asm, rfl, rfl, by k_room, by k_units⟩ (cb_drop N' permP) hW hH (List.forall_mem_cons.mpr ⟨Nat.ne_of_gt (Nat.lt_trans hdC l2'), List.forall_mem_cons.mpr ⟨Nat.ne_of_gt hdC, hn⟩⟩) hx e1 e2 e3 e4 e5 fun l0 sf df hb kb u0 u1 hf5 kf5 h2 tk2 F3 N3 b1 b2 b3 b4 => ?_
  clear N' F2
  have c1 : @LT.lt Nat _ D' l0 := b1 _ (.head _)
  k_steps
  refine Hold.mk ?_
  refine reset_new hC ⟨by k_asm, F3, by k_asm, by k_asm, rfl, rfl, by k_room, by k_units⟩ N3 hW hH ?_ hx ?_
  · exact List.forall_mem_cons.mpr ⟨Nat.ne_of_gt (Nat.lt_trans (Nat.lt_trans hx b2) (Nat.lt_trans b3 b4)), List.forall_mem_cons.mpr ⟨Nat.ne_of_gt (Nat.lt_trans (Nat.lt_trans hx b2) b3), List.forall_mem_cons.mpr ⟨Nat.ne_of_gt (Nat.lt_trans hx b2), List.forall_mem_cons.mpr ⟨Nat.ne_of_gt (Nat.lt_trans hdC l2'), List.forall_mem_cons.mpr ⟨Nat.ne_of_gt hdC, hn⟩⟩⟩⟩⟩
  · intro ls lr sec ds q so hb' kb' hs5 ks5 t3 t4 t5 h5 tk5 F5 N5 a1 a2 a3 a4 a5 a6 a7
    clear F3 N3
    have d1 : @LT.lt Nat _ sf so := a7.1
    have d2 : @LT.lt Nat _ so lr := Nat.lt_trans a2 a3
    k_steps
    rename Fr _ _ _ _ => Fz
    rename News _ _ _ _ => Nz
    have xl : @LT.lt Nat _ x l0 := b2
    have xs := Nat.lt_trans xl (Nat.lt_trans b3 b4)
    have fl := Nat.lt_trans d1 d2
    refine ret ls lr sec ds sf [(q, methodObj (.ref 301) (.ref x)), (so, ks_superObj 391 x C), (sf, instObj 203 df), (df, dictOf (secDict (.int Wi t1) (.int Hi t2) (.int 0 u0) (.int 0 u1) .none hf5 kf5) 5), (l0, listOf #[] 0), (D', o'), (C', { cls := .type "tuple", data := .seq #[] })] hb' kb' hs5 ks5 t3 t4 t5 _ _ Fz (cb_drop Nz permP2) (Nat.lt_trans xs fl) a4 a5 a6 ?_ ?_
    · exact List.forall_mem_cons.mpr ⟨⟨Nat.lt_trans a1 a2, a3⟩, List.forall_mem_cons.mpr ⟨⟨a1, d2⟩, List.forall_mem_cons.mpr ⟨⟨xs, fl⟩, List.forall_mem_cons.mpr ⟨⟨Nat.lt_trans xl b3, Nat.lt_trans b4 fl⟩, List.forall_mem_cons.mpr ⟨⟨xl, Nat.lt_trans b3 (Nat.lt_trans b4 fl)⟩, List.forall_mem_cons.mpr ⟨⟨Nat.lt_trans hxC l2', Nat.lt_trans c1 (Nat.lt_trans b3 (Nat.lt_trans b4 fl))⟩,
        List.forall_mem_cons.mpr ⟨⟨hxC, Nat.lt_trans l2' (Nat.lt_trans c1 (Nat.lt_trans b3 (Nat.lt_trans b4 fl)))⟩, fun _ h => nomatch h⟩⟩⟩⟩⟩⟩⟩
    · exact fun z hz => Nat.lt_trans (hnC z hz) (Nat.lt_trans l2' (Nat.lt_trans c1 (Nat.lt_trans b3 (Nat.lt_trans b4 fl))))
end
end Mine
namespace Mine
section
variable {w : World} {dp un : Nat} {gd : Option (List Code)} {env : Env} {outer : List Env} {A₀ : Around} {base h₀ : Heap} {L : Addr} {m : Str → Option Value} {p : Program} {loose : List Str} {mean : ExcName → Option Value} {mg mb : Str → Option Value} {news : List (Addr × Obj)} {s : Shared} {Q E : Value → Shared → Prop}
theorem rot57 {h : Heap} {a b c d e f g : Addr × Obj} (N : News h₀ L h (a :: b :: c :: d :: e :: f :: g :: news)) : News h₀ L h (f :: g :: a :: b :: c :: d :: e :: news) := cb_drop N (perm_of [[a], [b], [c], [d], [e], [f], [g]] [5, 6, 0, 1, 2, 3, 4] news)
theorem box_new {C : Addr} {Wi Hi : Int} {rotb : Bool} {t1 t2 : Tok}
    (hC : autoParam (C ∈ BX) Mine.aT10) (Cc : autoParam (Cx 14 w dp un env outer A₀ base h₀ L m p loose mean mg mb s.heap) Mine.aT4) (N : autoParam (News h₀ L s.heap news) Mine.aT5) (hW : autoParam (0 < Wi) Mine.aT0) (hH : autoParam (0 < Hi) Mine.aT0)
    (ret : ∀ x dx ls lr sec ds sf own hb' kb' hs ks t3 t4 t5 h' tk', Fr h₀ L h' m →
      News h₀ L h' ((ls, listOf [Value.ref sec].toArray 1) :: (lr, listOf #[] 0) :: (x, instObj C dx) :: (dx, dictOf (boxDict (.int Wi t1) (.int Hi t2) (.bool rotb) lr sf ls hb' kb') 8) ::
        (sec, instObj 203 ds) :: (ds, dictOf (secDict (.int Wi t1) (.int Hi t2) (.int 0 t3) (.int 0 t4) (.int 0 t5) hs ks) 5) :: (own ++ news)) →
      (∀ q ∈ news, @LT.lt Nat _ q.1 dx) → @LT.lt Nat _ dx x → @LT.lt Nat _ x lr → @LT.lt Nat _ lr ls → @LT.lt Nat _ ls ds → @LT.lt Nat _ ds sec → (∀ q ∈ own, @LT.lt Nat _ x q.1 ∧ @LT.lt Nat _ q.1 lr) → Q (.ref x) { s with heap := h', toks := tk' }) :
    wpAny (model PW w) (AR dp un gd env outer) (call (.ref C) [.int Wi t1, .int Hi t2, .bool rotb, .bool false]) Q E s := by
  obtain ⟨B, F, X, T, hf, hk, hdp, hun⟩ := Cc
  have hs0 : isFn (Mine.K w.params) (.ref 325) = true := by k_is
  refine call_cls F X N (bx_makes hC) (bx_minit hC) hs0 fun x dx h₁ F₁ N₁ lN l2 => ?_
  have hndx : ∀ q ∈ news, q.1 ≠ dx := fun q hq => Nat.ne_of_lt (lN q hq)
  have l2' : @LT.lt Nat _ dx x := l2
  clear F N l2
  k_dflt (walk_at "mine.mc_both")
  intro C' D' o' g' L' h' tk' l1 l2 lo' hs' fs' FG' F' N' B' X' T'
  k_lt l1
  obtain ⟨m2, e1, e2, e3, e4, e5, e6, e7, F2⟩ : ∃ m2, m2 (Str.ofString "self") = some (.ref x) ∧ m2 (Str.ofString "width") = some (.int Wi t1) ∧ m2 (Str.ofString "height") = some (.int Hi t2) ∧ m2 (Str.ofString "rot") = some (.bool rotb) ∧ m2 (Str.ofString "merge") = some (.bool false) ∧ m2 (Str.ofString "args") = some (.ref C') ∧ m2 (Str.ofString "kwargs") = some (.ref D') ∧ Fr g' L' h' m2 := ⟨_, rfl, rfl, rfl, rfl, rfl, rfl, rfl, F'⟩
  clear F'
  k_lift B'
  have l2'' : @LT.lt Nat _ C' D' := l2
  obtain ⟨n₀, rfl⟩ : ∃ n, o' = { cls := .type "dict", data := .dict #[] n } := by
    obtain ⟨es, ep, he, hd, _, hp, _⟩ := hs'
    have e0 : es = #[] := by
      cases hp' : es.toList with
      | nil => exact Array.toList_eq_nil_iff.mp hp'
      | cons a l => rw [hp'] at hp; exact nomatch hp
    subst e0
    obtain ⟨c, dd, da, sl⟩ := o'
    obtain ⟨ha, hb, hc⟩ := he
    cases ha; cases hb; cases hc; cases hd
    exact ⟨_, rfl⟩
  clear l2 hs'
  k_steps
  refine sup_eval ?_
  k_steps
  rename Fr _ _ _ _ => Fz
  rename News _ _ _ _ => Nz
  refine ⟨sup_call rfl Fz X' Nz (.head _) (InstAt.of_news Nz (by k_mem) (by k_mem)) (by k_is) (bx_sinit hC) (by k_is) (by decide) fun q h₂ F₂ N₂ lq => ?_⟩
  clear Fz Nz
  k_lt lq
  refine call_star2 rfl rfl rfl ?_
  k_steps
  rename Fr _ _ _ _ => Fz
  rename News _ _ _ _ => Nz
  refine ⟨kw_empty (dk := D') ((T'.nolimit).keeps Fz.keep) ?_ (Nz (D', _) (.tail _ (.tail _ (.head _)))).1 lo' fun t => ?_⟩
  · have Fz' := Fz.push { cls := .type "dict", data := .dict #[] }
    clear Fz Nz
    dsimp only
    refine wpAny_bind ?_
    k_steps
    exact wpAny_bind (wpAny_standAt (wpAny_pure ⟨_, rfl, rfl⟩))
  refine kw_none (n := 0) (Heap.get?_push_size _ rfl) ?_
  refine keeper_meth (Heap.get?_push_of_some _ (Nz _ (.head _)).1) (Heap.get?_push_of_some _ ((X'.keeps Fz.keep) _ _ rfl)) rfl ⟨rfl, ?_⟩
  dsimp only
  rename_i hz
  obtain ⟨F2', N2, l3⟩ := ks_newsPush (s := { heap := hz, gens := s.gens, drawn := s.drawn, toks := tk' + 2 + 1, os := s.os }) (o := { cls := .type "dict", data := .dict #[] }) (h' := hz.push { cls := .type "dict", data := .dict #[] }) Fz Nz rfl (Heap.get?_push_size _ rfl) (fun b o e => Heap.get?_push_of_some _ e)
  clear Fz Nz
  generalize hgk : Heap.push hz { cls := .type "dict", data := .dict #[] } = hk at F2' N2 ⊢
  generalize hgd : Array.size _ = dkw at l3 N2
  k_lt l3
  refine call_meth N2 (by k_mem) ?_
  refine pinit hC ⟨by k_asm, F2', by k_asm, by k_asm, rfl, rfl, by k_room, ?_⟩ (rot57 N2) hW hH ?_ l2' ?_
  · have e : (Code.builtin "type.__call__" { pos := [Value.ref C, Value.int Wi t1, Value.int Hi t2, Value.bool rotb, Value.bool false] }).cUnits ≤ 20 := by first | exact Nat.le_trans (Nat.le_of_eq (show _ = 1 from rfl)) (show 1 ≤ 20 by decide) | exact Nat.le_trans (Nat.le_of_eq (show _ = 4 from rfl)) (show 4 ≤ 20 by decide)
    show un + Code.cUnits _ + 3 + 20 * 10 < cLine
    omega
  · k_all
  · intro ls lr sec ds sf own hb' kb' hs5 ks5 t3 t4 t5 h5 tk5 F5 N5 a1 a2 a3 a4 a5 a6
    clear F2' N2
    k_steps
    rename Fr _ _ _ _ => Fz
    rename News _ _ _ _ => Nz
    exact ret x dx ls lr sec ds sf (own ++ [(dkw, { cls := .type "dict", data := .dict #[] }), (q, methodObj (.ref 222) (.ref x)), (_, ks_superObj 391 x C), (D', { cls := .type "dict", data := .dict #[] n₀ }), (C', { cls := .type "tuple", data := .seq #[] })]) hb' kb' hs5 ks5 t3 t4 t5 _ _ Fz (by rw [List.append_assoc]; exact Nz) lN l2' a1 a2 a3 a4 (by
      intro z hz
      rcases List.mem_append.mp hz with hz | hz
      · exact a5 z hz
      · have q1 := a6 z
        simp only [List.mem_cons, List.not_mem_nil, or_false] at hz q1
        rcases hz with rfl | rfl | rfl | rfl | rfl <;> simp only [true_or, or_true, forall_const] at q1 <;> refine ⟨?_, q1⟩ <;> (dsimp only; omega))
end
end Mine
namespace Mine
section
variable {w : World} {dp un : Nat} {gd : Option (List Code)} {env : Env} {outer : List Env} {A₀ : Around} {base h₀ : Heap} {L : Addr} {m : Str → Option Value} {p : Program} {loose : List Str} {mean : ExcName → Option Value} {mg mb : Str → Option Value} {news : List (Addr × Obj)} {s : Shared} {Q E : Value → Shared → Prop}
/-- what a call adds lies off what was there -/
noncomputable def Own (news own : List (Addr × Obj)) : Prop := ∀ q ∈ own, ∀ r ∈ news, @Ne Nat r.1 q.1
theorem own_nil {news : List (Addr × Obj)} : Own news [] := fun _ hq => nomatch hq
theorem own_cons {news own : List (Addr × Obj)} {q : Addr × Obj} (h : ∀ r ∈ news, @Ne Nat r.1 q.1) (k : Own news own) : Own news (q :: own) := List.forall_mem_cons.mpr ⟨h, k⟩
theorem own_lt {news : List (Addr × Obj)} {a : Addr} (h : ∀ p ∈ news, p.1 < a) : ∀ r ∈ news, @Ne Nat r.1 a := fun r hr => Nat.ne_of_lt (h r hr)
theorem own_all {news : List (Addr × Obj)} {a : Addr} (h : AllLt a news) : ∀ r ∈ news, @Ne Nat r.1 a := fun r hr => Nat.ne_of_lt (allLt_all h r hr)
theorem own_off {a : Addr} : ∀ {news : List (Addr × Obj)}, PyProof.Rows.LCg.Off1 a news → ∀ r ∈ news, @Ne Nat r.1 a
  | [], _ => fun _ h => nomatch h
  | _ :: _, h => List.forall_mem_cons.mpr ⟨h.1, own_off h.2⟩
theorem own_one {news : List (Addr × Obj)} {a : Addr} {o : Obj} (h : ∀ p ∈ news, p.1 < a) : Own news [(a, o)] := own_cons (own_lt h) own_nil
theorem own_app {news a b : List (Addr × Obj)} (h : Own news a) (k : Own news b) : Own news (a ++ b) := List.forall_mem_append.mpr ⟨h, k⟩
theorem Own.sub {news news' own : List (Addr × Obj)} (h : Own news own) (k : ∀ r ∈ news', r ∈ news) : Own news' own := fun q hq r hr => h q hq r (k r hr)
theorem compEnd {I C D : Addr} {s₁ : Shared} {oI oC oD : Obj} {S : List (Addr × Obj) → Prop} {rest : Value → List (Addr × Obj) → Prop} {y : Value} {h' : Heap} {tk : Nat} {news' : List (Addr × Obj)}
    (F : Fr h₀ L h' m) (N : News h₀ L h' ((I, oI) :: (C, oC) :: (D, oD) :: news')) (off : PyProof.Rows.LCg.Off3 I C D news') (hS : S news') (r : rest y news') :
    PyProof.Rows.LCg.CompEnd h₀ L m s₁ I oI C oC D oD S rest y { s₁ with heap := h', toks := tk } := ⟨h', tk, news', rfl, F, N, off, hS, r⟩
theorem ite_decT {c : Prop} [Decidable c] {a b : Prop} (hc : c) (h : a) : if decide c = true then a else b := by rw [if_pos (decide_eq_true hc)]; exact h
theorem ite_decF {c : Prop} [Decidable c] {a b : Prop} (hc : ¬ c) (h : b) : if decide c = true then a else b := by rw [if_neg (by rw [decide_eq_false hc]; exact Bool.false_ne_true)]; exact h
theorem sub_tup {A : Around} {value slice : Expr} {c : Addr} {l : List Value} {k : Int} {u : Tok} {x : Value} {j : Nat} {Q : Value → Shared → Prop} (N : autoParam (News h₀ L s.heap news) Mine.aT5) (hm : autoParam ((c, tupO l) ∈ news) Mine.aT8) (hlo : autoParam (-(2 ^ 63) ≤ k) Mine.aT10) (hhi : autoParam (k < 2 ^ 63) Mine.aT10) (hj : autoParam (seqIndex? k l.length = some j) Mine.aT1) (hx : autoParam (l[j]? = some x) Mine.aT1) (h : Q x s)
    (hs : autoParam (subscripted slice false (.ref c) (.int k u) = operate [.ref c, .int k u] (getItem (.ref c) (.int k u))) Mine.aT11) (hg : autoParam (∀ r, letTemporaryGo value (.ref c) r = pure ()) Mine.aT12) :
    wpAny (model PW w) A (PyProof.Rows.subscriptTail value slice (.ref c) (.int k u)) Q E s :=
  PyProof.Rows.item_tupleL ⟨_, (N _ hm).1, rfl, _, rfl⟩ hlo hhi hj hx h hs hg
theorem law_side {n sd : Int} {t1 t2 : Tok} (Cc : Cx 3 w dp un env outer A₀ base h₀ L m p loose mean mg mb s.heap) (N : News h₀ L s.heap news) (hsd : 1 ≤ sd)
    (ret : ∀ v t h' tk', 1 ≤ v → v ≤ sd + 1 → Fr h₀ L h' m → News h₀ L h' news → Q (.int v t) { s with heap := h', toks := tk' }) :
    wpAny (model PW w) (AR dp un gd env outer) (call (.ref 799) [.int n t1, .int sd t2]) Q E s := by
  obtain ⟨B, F, X, T, hf, hk, hdp, hun⟩ := Cc
  refine wpAny_call ?_
  k_dflt k_enter
  k_steps
  all_goals rename_i hz
  · have z1 := fmod_lo (if n < 0 then -n else n) (show 0 < sd + 1 by omega)
    have z2 := fmod_hi (if n < 0 then -n else n) (show 0 < sd + 1 by omega)
    exact ret _ _ _ _ (by omega) (by omega) (by k_asm) (by k_asm)
  · have z0 : sd.fdiv 2 = sd / 2 := Int.fdiv_eq_ediv_of_nonneg _ (by omega)
    omega
  · have z0 : sd.fdiv 2 = sd / 2 := Int.fdiv_eq_ediv_of_nonneg _ (by omega)
    have z1 := fmod_lo n (show 0 < sd.fdiv 2 + 1 by omega)
    have z2 := fmod_hi n (show 0 < sd.fdiv 2 + 1 by omega)
    exact ret _ _ _ _ (by omega) (by omega) (by k_asm) (by k_asm)
theorem law_value {k : Nat} {x y W H wi hi : Int} {t0 t1 t2 t3 t4 t5 t6 : Tok} {c : Addr} (Cc : Cx 3 w dp un env outer A₀ base h₀ L m p loose mean mg mb s.heap) (N : News h₀ L s.heap news)
    (hc : (c, tupO [.int x t1, .int y t2, .int W t3, .int H t4]) ∈ news) (b1 : 0 ≤ W) (b2 : W < bigI) (b3 : 0 ≤ H) (b4 : H < bigI) (b5 : 0 ≤ wi) (b6 : wi ≤ W) (b7 : 0 ≤ hi) (b8 : hi ≤ H) (hk3 : k < 3)
    (ret : ∀ v t own h' tk', fitV k W H wi hi = some v → Fr h₀ L h' m → News h₀ L h' (own ++ news) → Own news own → Q (.int v t) { s with heap := h', toks := tk' }) :
    wpAny (model PW w) (AR dp un gd env outer) (call (.ref 813) [.int k t0, .ref c, .int wi t5, .int hi t6]) Q E s := by
  obtain ⟨B, F, X, T, hf, hk, hdp, hun⟩ := Cc
  refine wpAny_call ?_
  k_dflt k_enter
  k_steps
  · obtain rfl : k = 0 := by omega
    rename News _ _ _ _ => Nz
    refine ret _ _ [_] _ _ ?_ (by k_asm) Nz (own_one (by assumption))
    show fitBssf W H wi hi = _
    unfold fitBssf
    rw [if_neg (by omega)]
    refine congrArg some ?_
    split <;> omega
  · obtain rfl : k = 1 := by omega
    rename News _ _ _ _ => Nz
    refine ret _ _ [_] _ _ ?_ (by k_asm) Nz (own_one (by assumption))
    show fitBlsf W H wi hi = _
    unfold fitBlsf
    rw [if_neg (by omega)]
    refine congrArg some ?_
    split <;> omega
  · obtain rfl : k = 2 := by omega
    rename News _ _ _ _ => Nz
    refine ret _ _ [_] _ _ ?_ (by k_asm) Nz (own_one (by assumption))
    show fitBaf W H wi hi = _
    unfold fitBaf
    rw [if_neg (by omega)]
end
end Mine
local macro_rules | `(tactic| walk_at "call ref") => Mine.sCall "Mine.box_new" "x' dx' ls' lr' sec' ds' sf' own' hb' kb' hs' ks' t3' t4' t5' h' tk' F' N' o1' o2' o3' o4' o5' o6' o7'" false
local macro_rules | `(tactic| walk_at "mine.own_one9") => `(tactic| first | exact Mine.own_all (by assumption) | exact Mine.own_off (by assumption) | exact Mine.own_lt (by assumption))
local macro_rules | `(tactic| walk_at "mine.own_go") => `(tactic| ((repeat (cases ‹_ ∧ _›)); (repeat (refine Mine.own_cons ?_ ?_; (focus (walk_at "mine.own_one9")))); exact Mine.own_nil))
local macro_rules | `(tactic| walk_at "CompEnd") => `(tactic| ((with_reducible rename Fr _ _ _ _ => kF9); (with_reducible rename News _ _ _ _ => kN9); (refine Mine.compEnd kF9 kN9 ?off ?src ?_); (case off => with_reducible assumption); (case src => lcg_src)))
local macro_rules | `(tactic| walk_at "CompRest") => `(tactic| (with_reducible first
  | refine PyProof.Rows.LCg.CompRest.zero ?_
  | (refine PyProof.Rows.LCg.CompRest.succ ?_; intro v' I' oI' C' oC' D' m' h' tk' E' hv' hC' hx' F' N' off' ne'; (first | k_dflt lcg_open hv' | (obtain ⟨t9', hv9'⟩ := hv'; subst hv9')))))
local macro_rules | `(tactic| walk_at "CompRestT") => `(tactic| (with_reducible first
  | refine PyProof.Rows.LCt.CompRestT.zero ?_
  | (refine PyProof.Rows.LCt.CompRestT.succ ?_; intro v' I' oI' C' oC' D' m' h' tk' E' hv' hC' hx' F' N' off' ne'; (first | k_dflt lcg_open hv' | (obtain ⟨t9', hv9'⟩ := hv'; subst hv9')))))
local macro_rules | `(tactic| walk_at "mine.k_look") => `(tactic| first | with_reducible assumption | exact if_pos rfl | (refine (if_neg (by decide)).trans ?_; (walk_at "mine.k_look")))
local macro_rules | `(tactic| walk_at "eval Name") => `(tactic| (k_here; k_dflt (refine' Mine.nameG_L (hv := by (walk_at "mine.k_look")) (h := ?_); k_whole)))
local macro_rules | `(tactic| walk_at "subscriptTail") => `(tactic| (k_here; (with_reducible show wpAny _ _ (PyProof.Rows.subscriptTail _ _ (Value.ref _) (Value.int _ _)) _ _ _); k_dflt (refine' Mine.sub_tup (h := ?_); k_whole)))
local macro_rules | `(tactic| walk_at "ite") => `(tactic| (k_here; first
  | (with_reducible refine Mine.ite_decT ?hc ?_; (case hc => first | with_reducible assumption | omega))
  | (with_reducible refine Mine.ite_decF ?hc ?_; (case hc => first | with_reducible assumption | omega))
  | (with_reducible refine PyProof.Rows.split_dec ?_ ?_ <;> intro _)))
namespace Mine
section
variable {w : World} {dp un : Nat} {gd : Option (List Code)} {env : Env} {outer : List Env} {A₀ : Around} {base h₀ : Heap} {L : Addr} {m : Str → Option Value} {p : Program} {loose : List Str} {mean : ExcName → Option Value} {mg mb : Str → Option Value} {news : List (Addr × Obj)} {s : Shared} {Q E : Value → Shared → Prop}
theorem law_box_end {Wi Hi : Int} {rotb : Bool} {t1 t2 : Tok} {k : Nat}
    (ret : ∀ C x dx ls lr sec ds sf own hb' kb' hs ks t3 t4 t5 h' tk', C ∈ BX → choiceOf C = k % 3 → splitOf C = k / 3 → Fr h₀ L h' m →
      News h₀ L h' ((ls, listOf [Value.ref sec].toArray 1) :: (lr, listOf #[] 0) :: (x, instObj C dx) :: (dx, dictOf (boxDict (.int Wi t1) (.int Hi t2) (.bool rotb) lr sf ls hb' kb') 8) ::
        (sec, instObj 203 ds) :: (ds, dictOf (secDict (.int Wi t1) (.int Hi t2) (.int 0 t3) (.int 0 t4) (.int 0 t5) hs ks) 5) :: (own ++ news)) →
      (∀ q ∈ news, @LT.lt Nat _ q.1 dx) → @LT.lt Nat _ dx x → @LT.lt Nat _ x lr → @LT.lt Nat _ lr ls → @LT.lt Nat _ ls ds → @LT.lt Nat _ ds sec → (∀ q ∈ own, @LT.lt Nat _ x q.1 ∧ @LT.lt Nat _ q.1 lr) → Q (.ref x) { s with heap := h', toks := tk' })
    {C x dx ls lr sec ds sf : Addr} {own : List (Addr × Obj)} {hb' : Nat → Int} {kb' : Nat → Tok} {hs ks} {t3 t4 t5 : Tok} {h' : Heap} {tk' : Nat} (hC : C ∈ BX ∧ choiceOf C = k % 3 ∧ splitOf C = k / 3) (F : Fr h₀ L h' m)
    (N : News h₀ L h' ((ls, listOf [Value.ref sec].toArray 1) :: (lr, listOf #[] 0) :: (x, instObj C dx) :: (dx, dictOf (boxDict (.int Wi t1) (.int Hi t2) (.bool rotb) lr sf ls hb' kb') 8) ::
        (sec, instObj 203 ds) :: (ds, dictOf (secDict (.int Wi t1) (.int Hi t2) (.int 0 t3) (.int 0 t4) (.int 0 t5) hs ks) 5) :: (own ++ news)))
    (o1 : ∀ q ∈ news, @LT.lt Nat _ q.1 dx) (o2 : @LT.lt Nat _ dx x) (o3 : @LT.lt Nat _ x lr) (o4 : @LT.lt Nat _ lr ls) (o5 : @LT.lt Nat _ ls ds) (o6 : @LT.lt Nat _ ds sec) (o7 : ∀ q ∈ own, @LT.lt Nat _ x q.1 ∧ @LT.lt Nat _ q.1 lr) : Q (.ref x) { s with heap := h', toks := tk' } :=
  ret C x dx ls lr sec ds sf own hb' kb' hs ks t3 t4 t5 h' tk' hC.1 hC.2.1 hC.2.2 F N o1 o2 o3 o4 o5 o6 o7
noncomputable def bxBody : List Stmt := match stAt 31 with | .FunctionDef _ _ b _ _ _ _ _ _ _ => b | _ => []
noncomputable def bxScope : Scope := match stAt 31 with | .FunctionDef _ _ _ _ _ _ s _ _ _ => s | _ => default
noncomputable abbrev BE (L : Addr) : Env := envOf (Str.ofString "_law_box") bxScope L 806 (.ref 805)
theorem wayN (n : Nat) {k : Nat} (h : n ≤ k) (h0 : ¬ (k : Int) = (n : Int)) : n + 1 ≤ k := Nat.lt_of_le_of_ne h fun e => h0 (congrArg Nat.cast e.symm)
theorem box_body {Wi Hi : Int} {rotb : Bool} {t0 t1 t2 : Tok} {k : Nat} {Q : Flow → Shared → Prop}
    (e1 : m (Str.ofString "way") = some (.int k t0)) (e2 : m (Str.ofString "width") = some (.int Wi t1)) (e3 : m (Str.ofString "height") = some (.int Hi t2)) (e4 : m (Str.ofString "rot") = some (.bool rotb))
    (Cc : Cx 16 w dp un (BE L) outer A₀ base h₀ L m p loose mean mg mb s.heap) (N : News h₀ L s.heap news) (hW : 0 < Wi) (hH : 0 < Hi) (hk3 : k < 18)
    (ret : ∀ C x dx ls lr sec ds sf own hb' kb' hs ks t3 t4 t5 h' tk', C ∈ BX → choiceOf C = k % 3 → splitOf C = k / 3 → Fr h₀ L h' m →
      News h₀ L h' ((ls, listOf [Value.ref sec].toArray 1) :: (lr, listOf #[] 0) :: (x, instObj C dx) :: (dx, dictOf (boxDict (.int Wi t1) (.int Hi t2) (.bool rotb) lr sf ls hb' kb') 8) ::
        (sec, instObj 203 ds) :: (ds, dictOf (secDict (.int Wi t1) (.int Hi t2) (.int 0 t3) (.int 0 t4) (.int 0 t5) hs ks) 5) :: (own ++ news)) →
      (∀ q ∈ news, @LT.lt Nat _ q.1 dx) → @LT.lt Nat _ dx x → @LT.lt Nat _ x lr → @LT.lt Nat _ lr ls → @LT.lt Nat _ ls ds → @LT.lt Nat _ ds sec → (∀ q ∈ own, @LT.lt Nat _ x q.1 ∧ @LT.lt Nat _ q.1 lr) → Q (.ret (.ref x)) { s with heap := h', toks := tk' }) :
    wpAny (model PW w) (AR dp un gd (BE L) outer) (execs bxBody (BE L)) Q E s := by
  obtain ⟨B, F, X, T, -, -, hdp, hun⟩ := Cc
  have q0 : bxBody = bxBody := rfl
  (conv at q0 => rhs; whnf)
  rw [q0]
  clear q0
  unfold BE at *
  have q9 : bxScope = bxScope := rfl
  (conv at q9 => rhs; whnf)
  rw [q9]
  clear q9
  k_steps
  all_goals
    rename Fr _ _ _ _ => Fz
    rename News _ _ _ _ => Nz
    refine law_box_end (Q := fun v s => Q (.ret v) s) ret ?_ Fz Nz (by assumption) (by assumption) (by assumption) (by assumption) (by assumption) (by assumption) (by assumption)
    clear Fz Nz ret X T B
    first
      | (rename (k : Int) = _ => h9; (first
        | (obtain rfl : k = 0 := Int.ofNat.inj h9; exact ⟨by decide, by decide, by decide⟩)
        | (obtain rfl : k = 1 := Int.ofNat.inj h9; exact ⟨by decide, by decide, by decide⟩)
        | (obtain rfl : k = 2 := Int.ofNat.inj h9; exact ⟨by decide, by decide, by decide⟩)
        | (obtain rfl : k = 3 := Int.ofNat.inj h9; exact ⟨by decide, by decide, by decide⟩)
        | (obtain rfl : k = 4 := Int.ofNat.inj h9; exact ⟨by decide, by decide, by decide⟩)
        | (obtain rfl : k = 5 := Int.ofNat.inj h9; exact ⟨by decide, by decide, by decide⟩)
        | (obtain rfl : k = 6 := Int.ofNat.inj h9; exact ⟨by decide, by decide, by decide⟩)
        | (obtain rfl : k = 7 := Int.ofNat.inj h9; exact ⟨by decide, by decide, by decide⟩)
        | (obtain rfl : k = 8 := Int.ofNat.inj h9; exact ⟨by decide, by decide, by decide⟩)
        | (obtain rfl : k = 9 := Int.ofNat.inj h9; exact ⟨by decide, by decide, by decide⟩)
        | (obtain rfl : k = 10 := Int.ofNat.inj h9; exact ⟨by decide, by decide, by decide⟩)
        | (obtain rfl : k = 11 := Int.ofNat.inj h9; exact ⟨by decide, by decide, by decide⟩)
        | (obtain rfl : k = 12 := Int.ofNat.inj h9; exact ⟨by decide, by decide, by decide⟩)
        | (obtain rfl : k = 13 := Int.ofNat.inj h9; exact ⟨by decide, by decide, by decide⟩)
        | (obtain rfl : k = 14 := Int.ofNat.inj h9; exact ⟨by decide, by decide, by decide⟩)
        | (obtain rfl : k = 15 := Int.ofNat.inj h9; exact ⟨by decide, by decide, by decide⟩)
        | (obtain rfl : k = 16 := Int.ofNat.inj h9; exact ⟨by decide, by decide, by decide⟩)))
      | (obtain rfl : k = 17 := Nat.le_antisymm (Nat.le_of_lt_succ (by assumption)) (wayN 16 (wayN 15 (wayN 14 (wayN 13 (wayN 12 (wayN 11 (wayN 10 (wayN 9 (wayN 8 (wayN 7 (wayN 6 (wayN 5 (wayN 4 (wayN 3 (wayN 2 (wayN 1 (wayN 0 (Nat.zero_le k) (by assumption)) (by assumption)) (by assumption)) (by assumption)) (by assumption)) (by assumption)) (by assumption)) (by assumption)) (by assumption)) (by assumption)) (by assumption)) (by assumption)) (by assumption)) (by assumption)) (by assumption)) (by assumption)) (by assumption)); exact ⟨by decide, by decide, by decide⟩)
theorem law_box {Wi Hi : Int} {rotb : Bool} {t0 t1 t2 : Tok} {k : Nat}
    (Cc : Cx 17 w dp un env outer A₀ base h₀ L m p loose mean mg mb s.heap) (N : News h₀ L s.heap news) (hW : 0 < Wi) (hH : 0 < Hi) (hk3 : k < 18)
    (ret : ∀ C x dx ls lr sec ds sf own hb' kb' hs ks t3 t4 t5 h' tk', C ∈ BX → choiceOf C = k % 3 → splitOf C = k / 3 → Fr h₀ L h' m →
      News h₀ L h' ((ls, listOf [Value.ref sec].toArray 1) :: (lr, listOf #[] 0) :: (x, instObj C dx) :: (dx, dictOf (boxDict (.int Wi t1) (.int Hi t2) (.bool rotb) lr sf ls hb' kb') 8) ::
        (sec, instObj 203 ds) :: (ds, dictOf (secDict (.int Wi t1) (.int Hi t2) (.int 0 t3) (.int 0 t4) (.int 0 t5) hs ks) 5) :: (own ++ news)) →
      (∀ q ∈ news, @LT.lt Nat _ q.1 dx) → @LT.lt Nat _ dx x → @LT.lt Nat _ x lr → @LT.lt Nat _ lr ls → @LT.lt Nat _ ls ds → @LT.lt Nat _ ds sec → (∀ q ∈ own, @LT.lt Nat _ x q.1 ∧ @LT.lt Nat _ q.1 lr) → Q (.ref x) { s with heap := h', toks := tk' }) :
    wpAny (model PW w) (AR dp un gd env outer) (call (.ref 806) [.int k t0, .int Wi t1, .int Hi t2, .bool rotb]) Q E s := by
  obtain ⟨B, F, X, T, hf, hk, hdp, hun⟩ := Cc
  refine wpAny_call ?_
  k_dflt k_enter
  rename Fr _ _ _ _ => Fz
  rename News _ _ _ _ => Nz
  refine box_body (k := k) rfl rfl rfl rfl ⟨by k_asm, Fz, by k_asm, by k_asm, rfl, rfl, by k_room, by k_units⟩ Nz hW hH hk3 ?_
  intro C x dx ls lr sec ds sf own hb' kb' hs ks t3 t4 t5 h' tk' c1 c2 c3 F' N' a1 a2 a3 a4 a5 a6 a7
  clear Fz Nz
  k_steps
  exact ret C x dx ls lr sec ds sf own hb' kb' hs ks t3 t4 t5 _ _ c1 c2 c3 (by k_asm) (by k_asm) a1 a2 a3 a4 a5 a6 a7
end
end Mine
namespace Mine
open PyProof.Rows.LCg PyProof.Rows.LCt
section
variable {prog : Program} {w : World} {A : Around} {s : Shared} {h₀ : Heap} {L : Addr} {m : Str → Option Value} {env : Env}
theorem CompEnd.imp {s₁ s₂ : Shared} {I C D : Addr} {oI oC oD : Obj} {S : List (Addr × Obj) → Prop} {rest rest' : Value → List (Addr × Obj) → Prop} {y : Value} (h : ∀ y nw, rest y nw → rest' y nw)
    (x : CompEnd h₀ L m s₁ I oI C oC D oD S rest y s₂) : CompEnd h₀ L m s₁ I oI C oC D oD S rest' y s₂ :=
  let ⟨h', tk, nw, e, F, N, off, hS, r⟩ := x; ⟨h', tk, nw, e, F, N, off, hS, h _ _ r⟩
/-- [x for x in L if test], where the test does nothing but look: the kept items stand for the kept data -/
theorem filt_rest {α : Type} {R : Value → α → Prop} {p : α → Bool} {qs : List α} {its : Array Value} {base : List (Addr × Obj)} {ct : Expr} {x : Str} {px : Pos} {scope : Scope} {cl : List (Str × Addr)} {S : List (Addr × Obj) → Prop} {Fin : List Value → List (Addr × Obj) → Prop}
    (hkind : scope.kind = .function) (hx : scope.names.lookup x = some .local) (hdb : (x == ("__debug__" : Str)) = false) (hS : S base) (hq : ListR R its.toList qs)
    (turn : ∀ v q ys I oI C oC D m₂ h tk (E' : Value → Shared → Prop), v ∈ its.toList → R v q → q ∈ qs → NsObj oC m₂ → m₂ x = some v → Fr h₀ L h m → News h₀ L h ((I, oI) :: (C, oC) :: (D, lst ys) :: base) → Off3 I C D base →
      wpAny (model prog w) A (isTrue ct (compEnvC scope cl C env) (eval ct (compEnvC scope cl C env))) (fun ok s' => ok = p q ∧ ∃ h' tk', s' = { s with heap := h', toks := tk' } ∧ Fr h₀ L h' m ∧ News h₀ L h' ((I, oI) :: (C, oC) :: (D, lst ys) :: base)) E' { s with heap := h, toks := tk })
    (fin : ∀ ys, ListR R ys (qs.filter p) → Fin ys base) :
    CompRestT prog w A h₀ L m env ct (.Name x px) x scope cl s S (fun i v => its[i]? = some v) Fin its.size 0 [] base := by
  suffices H : ∀ k i ys, i + k = its.size → ListR R ys ((qs.take i).filter p) → CompRestT prog w A h₀ L m env ct (.Name x px) x scope cl s S (fun i v => its[i]? = some v) Fin k i ys base from
    H its.size 0 [] (Nat.zero_add _) trivial
  have hlen : its.size = qs.length := by rw [← hq.length]; exact Array.length_toList.symm
  intro k
  induction k with
  | zero =>
    intro i ys hi h
    rw [Nat.add_zero] at hi
    rw [hi, hlen, List.take_length] at h
    exact CompRestT.zero (fin ys h)
  | succ k ih =>
    intro i ys hi h
    refine CompRestT.succ fun v I oI C oC D m₂ h' tk E' hP hns hm F N off ne => ?_
    have hv : its.toList[i]? = some v := by rw [Array.getElem?_toList]; exact hP
    obtain ⟨q, hqi, hr⟩ := hq.has hv
    have et : qs.take (i + 1) = qs.take i ++ [q] := by rw [List.take_add_one, hqi]; rfl
    refine wpAny_mono (turn v q ys I oI C oC D m₂ h' tk E' (List.mem_of_getElem? hv) hr (List.mem_of_getElem? hqi) hns hm F N off) (fun ok s' hok => ?_) fun _ _ z => z
    obtain ⟨rfl, h'', tk', rfl, F', N'⟩ := hok
    by_cases hp : p q = true
    · rw [if_pos hp]
      refine wpAny_Name (wpAny_loadName_local hkind (lookup_relabel_local hx) (hns.ns (N' _ (.tail _ (.head _))).1) hm ?_) hdb
      exact ⟨h'', tk', base, rfl, F', N', off, hS, ih (i + 1) (ys ++ [v]) (by omega) (by
        rw [et, List.filter_append, List.filter_cons_of_pos hp]; exact h.append ⟨hr, trivial⟩)⟩
    · rw [if_neg hp]
      exact ⟨h'', tk', base, rfl, F', N', off, hS, ih (i + 1) ys (by omega) (by
        rw [et, List.filter_append, List.filter_cons_of_neg hp, List.filter_nil, List.append_nil]; exact h)⟩
end
end Mine
namespace Mine
section
variable {w : World} {dp un : Nat} {gd : Option (List Code)} {env : Env} {outer : List Env} {A₀ : Around} {base h₀ : Heap} {L : Addr} {m : Str → Option Value} {p : Program} {loose : List Str} {mean : ExcName → Option Value} {mg mb : Str → Option Value} {news : List (Addr × Obj)} {s : Shared} {Q E : Value → Shared → Prop}
inductive TupAt4 (led : List (Addr × Obj)) (v : Value) (q : Q4) : Prop
  | mk (a : Addr) (t1 t2 t3 t4 : Tok) (e : v = .ref a) (m1 : (a, tupO [.int q.1 t1, .int q.2.1 t2, .int q.2.2.1 t3, .int q.2.2.2 t4]) ∈ led)
theorem TupAt4.imp {led led' : List (Addr × Obj)} {v : Value} {q : Q4} (h : TupAt4 led v q) (hs : ∀ p ∈ led, p ∈ led') : TupAt4 led' v q :=
  let ⟨a, t1, t2, t3, t4, e, hm⟩ := h; ⟨a, t1, t2, t3, t4, e, hs _ hm⟩
/-- the law's rule of splitting: flat? -/
noncomputable def lawFlat (k : Nat) (W H w h : Int) : Bool :=
  match k with
  | 0 => decide (W < H)
  | 1 => decide (H ≤ W)
  | 2 => decide (W - w < H - h)
  | 3 => decide (H - h ≤ W - w)
  | 4 => decide (min (w * (H - h)) ((W - w) * H) ≤ min (W * (H - h)) ((W - w) * h))
  | _ => decide (min (W * (H - h)) ((W - w) * h) ≤ min (w * (H - h)) ((W - w) * H))
/-- the law's pieces -/
noncomputable def lawCut (k : Nat) (x y W H w h : Int) : List Q4 :=
  (if lawFlat k W H w h = true then [(x, y + h, W, H - h), (x + w, y, W - w, h)] else [(x, y + h, w, H - h), (x + w, y, W - w, H)]).filter (fun q => decide (0 < q.2.2.1) && decide (0 < q.2.2.2))
theorem law_flat {k : Nat} {W H w h M1 M2 : Int} (hk : k < 6) (a1 : M1 = W * (H - h) ∨ M1 = (W - w) * h) (b1 : M1 ≤ W * (H - h) ∧ M1 ≤ (W - w) * h) (a2 : M2 = w * (H - h) ∨ M2 = (W - w) * H) (b2 : M2 ≤ w * (H - h) ∧ M2 ≤ (W - w) * H) :
    ∃ b, #[Value.bool (decide (W < H)), .bool (decide (H ≤ W)), .bool (decide (W - w < H - h)), .bool (decide (H - h ≤ W - w)), .bool (decide (M2 ≤ M1)), .bool (decide (M1 ≤ M2))][(k : Int).toNat]? = some (.bool b) ∧ lawFlat k W H w h = b := by
  have e1 : min (W * (H - h)) ((W - w) * h) = M1 := by omega
  have e2 : min (w * (H - h)) ((W - w) * H) = M2 := by omega
  rw [Int.toNat_natCast]
  match k, hk with
  | 0, _ => exact ⟨_, rfl, rfl⟩
  | 1, _ => exact ⟨_, rfl, rfl⟩
  | 2, _ => exact ⟨_, rfl, rfl⟩
  | 3, _ => exact ⟨_, rfl, rfl⟩
  | 4, _ => exact ⟨_, rfl, by show decide _ = _; rw [e1, e2]⟩
  | 5, _ => exact ⟨_, rfl, by show decide _ = _; rw [e1, e2]⟩
theorem hold_sub {M : Model} {A : Around} {E : Value → Shared → Prop} {s : Shared} {es : List Expr} {p : Pos} {slice : Expr} {o i : Value} {Q : Value → Shared → Prop} (h : Hold (wpAny M A (PyProof.Rows.subscriptTail (.List es p) slice o i) Q E s)) : wpAny M A (PyProof.Rows.subscriptTail (.List es p) slice o i) Q E s := h.get
local macro_rules | `(tactic| walk_at "subscriptTail") => Mine.sHold "Mine.hold_sub"
theorem hold_lc0 {M : Model} {A : Around} {E : Value → Shared → Prop} {s : Shared} {Q : Value → Shared → Prop} {elt tg it ct : Expr} {sc : Scope} {p : Pos} {env : Env} (h : Hold (wpAny M A (eval (.ListComp elt [⟨tg, it, [ct], 0⟩] sc p) env) Q E s)) : wpAny M A (eval (.ListComp elt [⟨tg, it, [ct], 0⟩] sc p) env) Q E s := h.get
local macro_rules | `(tactic| walk_at "eval ListComp") => Mine.sHold "Mine.hold_lc0"
noncomputable def lpDef : Stmt := stAt 34
noncomputable def lpScope : Scope := match lpDef with | .FunctionDef _ _ _ _ _ _ s _ _ _ => s | _ => default
noncomputable def lpRet : Expr := match lpDef with | .FunctionDef _ _ b _ _ _ _ _ _ _ => (match b.getLast? with | some (.Return (some e) _) => e | _ => .Constant .none 0 ⟨0, 0, 0, 0⟩) | _ => .Constant .none 0 ⟨0, 0, 0, 0⟩
theorem lp_comp {l fa : Addr} {cd : Value} {its : List Value} {k : Nat} {own : List (Addr × Obj)} {qs : List Q4} (_F : Fr h₀ L s.heap m) (mp : m (Str.ofString "pieces") = some (.ref l)) (N : News h₀ L s.heap (own ++ news))
    (hl : (l, listOf its.toArray k) ∈ own) (hq : ListR (TupAt4 own) its qs) (hsz : its.length ≤ 900) (Cc : Cx 0 w dp un (envOf (Str.ofString "_law_pieces") lpScope L fa cd) outer A₀ base h₀ L m p loose mean mg mb s.heap)
    (ret : ∀ D ys h' tk', ListR (TupAt4 own) ys (qs.filter fun q => decide (0 < q.2.2.1) && decide (0 < q.2.2.2)) → Fr h₀ L h' m → News h₀ L h' ((D, PyProof.Rows.LCg.lst ys) :: (own ++ news)) → (∀ r ∈ own ++ news, @Ne Nat r.1 D) → Q (.ref D) { s with heap := h', toks := tk' }) :
    wpAny (model PW w) (AR dp un gd (envOf (Str.ofString "_law_pieces") lpScope L fa cd) outer) (eval lpRet (envOf (Str.ofString "_law_pieces") lpScope L fa cd)) Q E s := by
  obtain ⟨B, F, X, T, -, -, hdp, hun⟩ := Cc
  have e1 : lpRet = lpRet := rfl
  conv at e1 => rhs; whnf
  rw [e1]
  clear e1
  have e2 : lpScope = lpScope := rfl
  conv at e2 => rhs; whnf
  rw [e2]
  clear e2
  refine PyProof.Rows.LCt.ListComp_T (cl := []) F (by with_unfolding_all rfl) (by decide) rfl (by decide) rfl ?_ (fun _ => by with_unfolding_all rfl)
  refine wpAny_Name (wpAny_loadName_local rfl rfl F.ns mp ?_) (by decide)
  refine PyProof.Rows.LCt.CompSrcT.ledger rfl F N (List.mem_append_left _ hl) ?_ fun g => filt_rest (R := TupAt4 own) (p := fun q => decide (0 < q.2.2.1) && decide (0 < q.2.2.2)) (qs := qs) rfl rfl (by decide) (.inr ⟨_, List.mem_append_left _ hl, rfl, _, rfl⟩) hq ?_ ?_
  · rw [List.size_toArray]; exact Nat.le_trans hsz (by decide)
  · intro v q ys I oI C oC' D mm h tk E' hv hr hqm hns hmx Fz Nz off
    obtain ⟨ca, s1, s2, s3, s4, rfl, hcm⟩ := hr
    have hcm' := List.mem_append_left news hcm
    refine wpAny_mono (Q := fun xv s' => Hold _) ?_ (fun _ _ x => x.get) fun _ _ x => x
    clear F N hv
    k_steps
    all_goals
      refine Hold.mk ⟨?_, _, _, rfl, by k_asm, by k_asm⟩
      clear ret B X T hdp hun hcm hcm' hns hmx off hl hq
      (try clear Fz Nz)
      simp only [Bool.true_eq, Bool.false_eq, Bool.and_eq_true, Bool.and_eq_false_iff, decide_eq_true_eq, decide_eq_false_iff_not]
      omega
  · intro ys hys D h tk F' N' off
    exact ret D ys h tk hys F' N' fun r hr => (own_off off) r hr
noncomputable abbrev LPE (L fa : Addr) (cd : Value) : Env := envOf (Str.ofString "_law_pieces") lpScope L fa cd
noncomputable def lpBody : List Stmt := match lpDef with | .FunctionDef _ _ b _ _ _ _ _ _ _ => b | _ => []
noncomputable def lpAt (i : Nat) : Stmt := lpBody.getD i (.Pass ⟨0, 0, 0, 0⟩)
theorem lpBody_eq : lpBody = [lpAt 0, lpAt 1, lpAt 2, lpAt 3, lpAt 4, lpAt 5, lpAt 6] := by kernel_rfl
section
variable {fa : Addr} {cd : Value}
/-- x, y, width, height = section -/
theorem lp0 {x y W H : Int} {t1 t2 t3 t4 : Tok} {c : Addr} {Q : Flow → Shared → Prop} (Cc : Cx 2 w dp un (LPE L fa cd) outer A₀ base h₀ L m p loose mean mg mb s.heap) (N : News h₀ L s.heap news)
    (hc : (c, tupO [.int x t1, .int y t2, .int W t3, .int H t4]) ∈ news) (e2 : m (Str.ofString "section") = some (.ref c))
    (ret : ∀ h' tk', Fr h₀ L h' (fun z => if z = Str.ofString "height" then some (.int H t4) else if z = Str.ofString "width" then some (.int W t3) else if z = Str.ofString "y" then some (.int y t2) else if z = Str.ofString "x" then some (.int x t1) else m z) → News h₀ L h' news → Q .next { s with heap := h', toks := tk' }) :
    wpAny (model PW w) (AR dp un gd (LPE L fa cd) outer) (exec (lpAt 0) (LPE L fa cd)) Q E s := by
  obtain ⟨B, F, X, T, -, -, hdp, hun⟩ := Cc
  have q0 : (lpAt 0) = (lpAt 0) := rfl
  (conv at q0 => rhs; whnf)
  rw [q0]
  clear q0
  unfold LPE at *
  have q9 : lpScope = lpScope := rfl
  (conv at q9 => rhs; whnf)
  rw [q9]
  clear q9
  k_steps
  exact ret _ _ (by k_asm) (by k_asm)
/-- flat = .. -/
theorem lp1 {x y W H wi hi : Int} {t1 t2 t3 t4 t5 t6 : Tok} {Q : Flow → Shared → Prop} (Cc : Cx 2 w dp un (LPE L fa cd) outer A₀ base h₀ L m p loose mean mg mb s.heap) (N : News h₀ L s.heap news)
    (e1 : m (Str.ofString "x") = some (.int x t1)) (e2 : m (Str.ofString "y") = some (.int y t2)) (e3 : m (Str.ofString "width") = some (.int W t3)) (e4 : m (Str.ofString "height") = some (.int H t4)) (e5 : m (Str.ofString "w") = some (.int wi t5)) (e6 : m (Str.ofString "h") = some (.int hi t6))
    (ret : ∀ D v1 v2 own h' tk', TupAt4 own v1 (x, y + hi, W, H - hi) → TupAt4 own v2 (x + wi, y, W - wi, hi) → (D, listOf #[v1, v2] 0) ∈ own → Own news own → Fr h₀ L h' (fun z => if z = Str.ofString "flat" then some (.ref D) else m z) → News h₀ L h' (own ++ news) → Q .next { s with heap := h', toks := tk' }) :
    wpAny (model PW w) (AR dp un gd (LPE L fa cd) outer) (exec (lpAt 1) (LPE L fa cd)) Q E s := by
  obtain ⟨B, F, X, T, -, -, hdp, hun⟩ := Cc
  have q0 : (lpAt 1) = (lpAt 1) := rfl
  (conv at q0 => rhs; whnf)
  rw [q0]
  clear q0
  unfold LPE at *
  have q9 : lpScope = lpScope := rfl
  (conv at q9 => rhs; whnf)
  rw [q9]
  clear q9
  k_steps
  rename Fr _ _ _ _ => Fz
  rename News _ _ _ _ => Nz
  refine ret _ _ _ [_, _, _] _ _ ⟨_, _, _, _, _, rfl, .tail _ (.tail _ (.head _))⟩ ⟨_, _, _, _, _, rfl, .tail _ (.head _)⟩ (.head _) (by (walk_at "mine.own_go")) Fz Nz
/-- upright = .. -/
theorem lp2 {x y W H wi hi : Int} {t1 t2 t3 t4 t5 t6 : Tok} {Q : Flow → Shared → Prop} (Cc : Cx 2 w dp un (LPE L fa cd) outer A₀ base h₀ L m p loose mean mg mb s.heap) (N : News h₀ L s.heap news)
    (e1 : m (Str.ofString "x") = some (.int x t1)) (e2 : m (Str.ofString "y") = some (.int y t2)) (e3 : m (Str.ofString "width") = some (.int W t3)) (e4 : m (Str.ofString "height") = some (.int H t4)) (e5 : m (Str.ofString "w") = some (.int wi t5)) (e6 : m (Str.ofString "h") = some (.int hi t6))
    (ret : ∀ D v1 v2 own h' tk', TupAt4 own v1 (x, y + hi, wi, H - hi) → TupAt4 own v2 (x + wi, y, W - wi, H) → (D, listOf #[v1, v2] 0) ∈ own → Own news own → Fr h₀ L h' (fun z => if z = Str.ofString "upright" then some (.ref D) else m z) → News h₀ L h' (own ++ news) → Q .next { s with heap := h', toks := tk' }) :
    wpAny (model PW w) (AR dp un gd (LPE L fa cd) outer) (exec (lpAt 2) (LPE L fa cd)) Q E s := by
  obtain ⟨B, F, X, T, -, -, hdp, hun⟩ := Cc
  have q0 : (lpAt 2) = (lpAt 2) := rfl
  (conv at q0 => rhs; whnf)
  rw [q0]
  clear q0
  unfold LPE at *
  have q9 : lpScope = lpScope := rfl
  (conv at q9 => rhs; whnf)
  rw [q9]
  clear q9
  k_steps
  rename Fr _ _ _ _ => Fz
  rename News _ _ _ _ => Nz
  refine ret _ _ _ [_, _, _] _ _ ⟨_, _, _, _, _, rfl, .tail _ (.tail _ (.head _))⟩ ⟨_, _, _, _, _, rfl, .tail _ (.head _)⟩ (.head _) (by (walk_at "mine.own_go")) Fz Nz
/-- small = min of the two areas -/
theorem lp3 {q1 q2 : Q4} {D : Addr} {v1 v2 : Value} {Q : Flow → Shared → Prop} (Cc : Cx 2 w dp un (LPE L fa cd) outer A₀ base h₀ L m p loose mean mg mb s.heap) (N : News h₀ L s.heap news)
    (e1 : m (Str.ofString "flat") = some (.ref D)) (h1 : TupAt4 news v1 q1) (h2 : TupAt4 news v2 q2) (hD : (D, listOf #[v1, v2] 0) ∈ news) (b1 : -bigI < q1.2.2.1 ∧ q1.2.2.1 < bigI ∧ -bigI < q1.2.2.2 ∧ q1.2.2.2 < bigI) (b2 : -bigI < q2.2.2.1 ∧ q2.2.2.1 < bigI ∧ -bigI < q2.2.2.2 ∧ q2.2.2.2 < bigI)
    (ret : ∀ M t own h' tk', (M = q1.2.2.1 * q1.2.2.2 ∨ M = q2.2.2.1 * q2.2.2.2) → (M ≤ q1.2.2.1 * q1.2.2.2 ∧ M ≤ q2.2.2.1 * q2.2.2.2) → Own news own → Fr h₀ L h' (fun z => if z = Str.ofString "small" then some (.int M t) else m z) → News h₀ L h' (own ++ news) → Q .next { s with heap := h', toks := tk' }) :
    wpAny (model PW w) (AR dp un gd (LPE L fa cd) outer) (exec (lpAt 3) (LPE L fa cd)) Q E s := by
  obtain ⟨B, F, X, T, -, -, hdp, hun⟩ := Cc
  obtain ⟨a1, s1, s2, s3, s4, rfl, k1⟩ := h1
  obtain ⟨a2, u1, u2, u3, u4, rfl, k2⟩ := h2
  obtain ⟨b11, b12, b13, b14⟩ := b1
  obtain ⟨b21, b22, b23, b24⟩ := b2
  have q0 : (lpAt 3) = (lpAt 3) := rfl
  (conv at q0 => rhs; whnf)
  rw [q0]
  clear q0
  unfold LPE at *
  have q9 : lpScope = lpScope := rfl
  (conv at q9 => rhs; whnf)
  rw [q9]
  clear q9
  k_steps
  rename Fr _ _ _ _ => Fz
  rename News _ _ _ _ => Nz
  rename _ ∨ _ => hA
  rename _ ≤ _ ∧ _ ≤ _ => hB
  exact ret _ _ [_] _ _ hA hB (own_cons (own_off (by assumption)) own_nil) Fz Nz
/-- other = min of the two areas -/
theorem lp4 {q1 q2 : Q4} {D : Addr} {v1 v2 : Value} {Q : Flow → Shared → Prop} (Cc : Cx 2 w dp un (LPE L fa cd) outer A₀ base h₀ L m p loose mean mg mb s.heap) (N : News h₀ L s.heap news)
    (e1 : m (Str.ofString "upright") = some (.ref D)) (h1 : TupAt4 news v1 q1) (h2 : TupAt4 news v2 q2) (hD : (D, listOf #[v1, v2] 0) ∈ news) (b1 : -bigI < q1.2.2.1 ∧ q1.2.2.1 < bigI ∧ -bigI < q1.2.2.2 ∧ q1.2.2.2 < bigI) (b2 : -bigI < q2.2.2.1 ∧ q2.2.2.1 < bigI ∧ -bigI < q2.2.2.2 ∧ q2.2.2.2 < bigI)
    (ret : ∀ M t own h' tk', (M = q1.2.2.1 * q1.2.2.2 ∨ M = q2.2.2.1 * q2.2.2.2) → (M ≤ q1.2.2.1 * q1.2.2.2 ∧ M ≤ q2.2.2.1 * q2.2.2.2) → Own news own → Fr h₀ L h' (fun z => if z = Str.ofString "other" then some (.int M t) else m z) → News h₀ L h' (own ++ news) → Q .next { s with heap := h', toks := tk' }) :
    wpAny (model PW w) (AR dp un gd (LPE L fa cd) outer) (exec (lpAt 4) (LPE L fa cd)) Q E s := by
  obtain ⟨B, F, X, T, -, -, hdp, hun⟩ := Cc
  obtain ⟨a1, s1, s2, s3, s4, rfl, k1⟩ := h1
  obtain ⟨a2, u1, u2, u3, u4, rfl, k2⟩ := h2
  obtain ⟨b11, b12, b13, b14⟩ := b1
  obtain ⟨b21, b22, b23, b24⟩ := b2
  have q0 : (lpAt 4) = (lpAt 4) := rfl
  (conv at q0 => rhs; whnf)
  rw [q0]
  clear q0
  unfold LPE at *
  have q9 : lpScope = lpScope := rfl
  (conv at q9 => rhs; whnf)
  rw [q9]
  clear q9
  k_steps
  rename Fr _ _ _ _ => Fz
  rename News _ _ _ _ => Nz
  rename _ ∨ _ => hA
  rename _ ≤ _ ∧ _ ≤ _ => hB
  exact ret _ _ [_] _ _ hA hB (own_cons (own_off (by assumption)) own_nil) Fz Nz
theorem own1x {h₀ h : Heap} {L : Addr} {a : Addr × Obj} {news : List (Addr × Obj)} (_N : News h₀ L h (a :: news)) (k : ∀ r ∈ news, @Ne Nat r.1 a.1) : Own news [a] := own_cons k own_nil
/-- pieces = flat, or upright -/
theorem lp5 {k : Nat} {W H wi hi M1 M2 : Int} {t0 t3 t4 t5 t6 t7 t8 : Tok} {D1 D2 : Addr} {Q : Flow → Shared → Prop} (Cc : Cx 2 w dp un (LPE L fa cd) outer A₀ base h₀ L m p loose mean mg mb s.heap) (N : News h₀ L s.heap news) (hk6 : k < 6)
    (aM1 : M1 = W * (H - hi) ∨ M1 = (W - wi) * hi) (bM1 : M1 ≤ W * (H - hi) ∧ M1 ≤ (W - wi) * hi) (aM2 : M2 = wi * (H - hi) ∨ M2 = (W - wi) * H) (bM2 : M2 ≤ wi * (H - hi) ∧ M2 ≤ (W - wi) * H)
    (e0 : m (Str.ofString "split") = some (.int k t0)) (e3 : m (Str.ofString "width") = some (.int W t3)) (e4 : m (Str.ofString "height") = some (.int H t4)) (e5 : m (Str.ofString "w") = some (.int wi t5)) (e6 : m (Str.ofString "h") = some (.int hi t6)) (e7 : m (Str.ofString "small") = some (.int M1 t7)) (e8 : m (Str.ofString "other") = some (.int M2 t8)) (e9 : m (Str.ofString "flat") = some (.ref D1)) (e10 : m (Str.ofString "upright") = some (.ref D2))
    (ret : ∀ own h' tk', Own news own → Fr h₀ L h' (fun z => if z = Str.ofString "pieces" then some (.ref (if lawFlat k W H wi hi = true then D1 else D2)) else m z) → News h₀ L h' (own ++ news) → Q .next { s with heap := h', toks := tk' }) :
    wpAny (model PW w) (AR dp un gd (LPE L fa cd) outer) (exec (lpAt 5) (LPE L fa cd)) Q E s := by
  obtain ⟨B, F, X, T, -, -, hdp, hun⟩ := Cc
  have q0 : (lpAt 5) = (lpAt 5) := rfl
  (conv at q0 => rhs; whnf)
  rw [q0]
  clear q0
  unfold LPE at *
  have q9 : lpScope = lpScope := rfl
  (conv at q9 => rhs; whnf)
  rw [q9]
  clear q9
  obtain ⟨b, hb, hbF⟩ := law_flat hk6 aM1 bM1 aM2 bM2
  rw [hbF] at ret
  clear aM1 bM1 aM2 bM2 hbF
  k_steps
  rename Fr _ _ _ _ => Fz
  rename News _ _ _ _ => Nz
  have hown := own1x Nz (by (walk_at "mine.own_one9"))
  refine Hold.mk (kba_turn (value' := PySem.Expr.Name (PySem.Str.ofString "_") ⟨0, 0, 0, 0⟩) (fun _ => rfl) (PyProof.Rows.item_list ⟨_, (Nz _ (.head _)).1, rfl, _, rfl⟩ (Int.natCast_nonneg k) (Int.lt_trans (Int.ofNat_lt.mpr hk6) (by decide)) hb ?_))
  clear hb
  cases b
  · k_steps
    exact ret [_] _ _ hown (by k_asm) (by k_asm)
  · k_steps
    exact ret [_] _ _ hown (by k_asm) (by k_asm)
theorem rL {α : Type} {a b c d e nw : List α} : ∀ q ∈ (a ++ (b ++ (c ++ (d ++ e)))) ++ nw, q ∈ a ++ (b ++ (c ++ (d ++ (e ++ nw)))) := by
  intro q hq; simp only [List.append_assoc] at hq; exact hq
end
theorem law_pieces {k : Nat} {x y W H wi hi : Int} {t0 t1 t2 t3 t4 t5 t6 : Tok} {c : Addr} (Cc : Cx 3 w dp un env outer A₀ base h₀ L m p loose mean mg mb s.heap) (N : News h₀ L s.heap news)
    (hc : (c, tupO [.int x t1, .int y t2, .int W t3, .int H t4]) ∈ news) (b1 : 0 ≤ W) (b2 : W < bigI) (b3 : 0 ≤ H) (b4 : H < bigI) (b5 : 0 < wi) (b6 : wi ≤ W) (b7 : 0 < hi) (b8 : hi ≤ H) (hk6 : k < 6)
    (ret : ∀ D ys own h' tk', Fr h₀ L h' m → News h₀ L h' ((D, PyProof.Rows.LCg.lst ys) :: (own ++ news)) → ListR (TupAt4 own) ys (lawCut k x y W H wi hi) → Own news ((D, PyProof.Rows.LCg.lst ys) :: own) → Q (.ref D) { s with heap := h', toks := tk' }) :
    wpAny (model PW w) (AR dp un gd env outer) (call (.ref 823) [.int k t0, .ref c, .int wi t5, .int hi t6]) Q E s := by
  obtain ⟨B, F, X, T, hf, hk, hdp, hun⟩ := Cc
  refine wpAny_call ?_
  k_dflt k_enter
  rename Fr _ _ _ _ => Fz
  rename News _ _ _ _ => Nz
  rename_i gz Lz hz0 FGz Bz Xz Tz
  obtain ⟨m2, e1, e2, e3, e4, F2⟩ : ∃ m2, m2 (Str.ofString "split") = some (.int k t0) ∧ m2 (Str.ofString "section") = some (.ref c) ∧ m2 (Str.ofString "w") = some (.int wi t5) ∧ m2 (Str.ofString "h") = some (.int hi t6) ∧ Fr gz Lz hz0 m2 := ⟨_, rfl, rfl, rfl, rfl, Fz⟩
  clear Fz
  refine wpAny_execs_cons (lp0 ⟨by k_asm, F2, by k_asm, by k_asm, rfl, rfl, by k_room, by k_units⟩ Nz hc e2 fun h1 tk1 F3 N3 => ?_)
  clear F2 Nz
  obtain ⟨m3, f1, f2, f3, f4, f5, f6, f7, F3⟩ : ∃ m3, m3 (Str.ofString "split") = some (.int k t0) ∧ m3 (Str.ofString "x") = some (.int x t1) ∧ m3 (Str.ofString "y") = some (.int y t2) ∧ m3 (Str.ofString "width") = some (.int W t3) ∧ m3 (Str.ofString "height") = some (.int H t4) ∧ m3 (Str.ofString "w") = some (.int wi t5) ∧ m3 (Str.ofString "h") = some (.int hi t6) ∧ Fr gz Lz h1 m3 := ⟨_, by (walk_at "mine.k_look"), by (walk_at "mine.k_look"), by (walk_at "mine.k_look"), by (walk_at "mine.k_look"), by (walk_at "mine.k_look"), by (walk_at "mine.k_look"), by (walk_at "mine.k_look"), F3⟩
  clear e1 e2 e3 e4
  refine wpAny_execs_cons (lp1 ⟨by k_asm, F3, by k_asm, by k_asm, rfl, rfl, by k_room, by k_units⟩ N3 f2 f3 f4 f5 f6 f7 fun D1 v1 v2 own1 h2 tk2 p1 p2 d1 o1 F4 N4 => ?_)
  refine wpAny_execs_cons (lp2 ⟨by k_asm, F4, by k_asm, by k_asm, rfl, rfl, by k_room, by k_units⟩ N4 (by (walk_at "mine.k_look")) (by (walk_at "mine.k_look")) (by (walk_at "mine.k_look")) (by (walk_at "mine.k_look")) (by (walk_at "mine.k_look")) (by (walk_at "mine.k_look")) fun D2 v3 v4 own2 h3 tk3 p3 p4 d2 o2 F5 N5 => ?_)
  refine wpAny_execs_cons (lp3 (q1 := (x, y + hi, W, H - hi)) (q2 := (x + wi, y, W - wi, hi)) ⟨by k_asm, F5, by k_asm, by k_asm, rfl, rfl, by k_room, by k_units⟩ N5 (by (walk_at "mine.k_look")) (p1.imp fun p hp => List.mem_append_right _ (List.mem_append_left _ hp)) (p2.imp fun p hp => List.mem_append_right _ (List.mem_append_left _ hp)) (List.mem_append_right _ (List.mem_append_left _ d1)) ⟨by dsimp only; omega, by dsimp only; omega, by dsimp only; omega, by dsimp only; omega⟩ ⟨by dsimp only; omega, by dsimp only; omega, by dsimp only; omega, by dsimp only; omega⟩ fun M1 tM1 own3 h4 tk4 aM1 bM1 o3 F6 N6 => ?_)
  refine wpAny_execs_cons (lp4 (q1 := (x, y + hi, wi, H - hi)) (q2 := (x + wi, y, W - wi, H)) ⟨by k_asm, F6, by k_asm, by k_asm, rfl, rfl, by k_room, by k_units⟩ N6 (by (walk_at "mine.k_look")) (p3.imp fun p hp => List.mem_append_right _ (List.mem_append_left _ hp)) (p4.imp fun p hp => List.mem_append_right _ (List.mem_append_left _ hp)) (List.mem_append_right _ (List.mem_append_left _ d2)) ⟨by dsimp only; omega, by dsimp only; omega, by dsimp only; omega, by dsimp only; omega⟩ ⟨by dsimp only; omega, by dsimp only; omega, by dsimp only; omega, by dsimp only; omega⟩ fun M2 tM2 own4 h5 tk5 aM2 bM2 o4 F7 N7 => ?_)
  clear F3 F4 F5 F6 N3 N4 N5 N6
  refine wpAny_execs_cons (lp5 (W := W) (H := H) (wi := wi) (hi := hi) ⟨by k_asm, F7, by k_asm, by k_asm, rfl, rfl, by k_room, by k_units⟩ N7 hk6 aM1 bM1 aM2 bM2 (by (walk_at "mine.k_look")) (by (walk_at "mine.k_look")) (by (walk_at "mine.k_look")) (by (walk_at "mine.k_look")) (by (walk_at "mine.k_look")) (by (walk_at "mine.k_look")) (by (walk_at "mine.k_look")) (by (walk_at "mine.k_look")) (by (walk_at "mine.k_look")) fun own5 h6 tk6 o5 F8 N8 => ?_)
  clear F7 N7 aM1 bM1 aM2 bM2
  have hO : Own news (own5 ++ (own4 ++ (own3 ++ (own2 ++ own1)))) := own_app (o5.sub fun r hr => List.mem_append_right _ (List.mem_append_right _ (List.mem_append_right _ (List.mem_append_right _ hr)))) (own_app (o4.sub fun r hr => List.mem_append_right _ (List.mem_append_right _ (List.mem_append_right _ hr))) (own_app (o3.sub fun r hr => List.mem_append_right _ (List.mem_append_right _ hr)) (own_app (o2.sub fun r hr => List.mem_append_right _ hr) o1)))
  have N9 := cb_drop N8 rL
  have k1 : ∀ p ∈ own1, p ∈ own5 ++ (own4 ++ (own3 ++ (own2 ++ own1))) := fun p hp => List.mem_append_right _ (List.mem_append_right _ (List.mem_append_right _ (List.mem_append_right _ hp)))
  have k2 : ∀ p ∈ own2, p ∈ own5 ++ (own4 ++ (own3 ++ (own2 ++ own1))) := fun p hp => List.mem_append_right _ (List.mem_append_right _ (List.mem_append_right _ (List.mem_append_left _ hp)))
  generalize own5 ++ (own4 ++ (own3 ++ (own2 ++ own1))) = ow at hO N9 k1 k2
  clear N8 o1 o2 o3 o4 o5
  k_steps
  refine Hold.mk ?_
  by_cases hb : lawFlat k W H wi hi = true
  · rw [if_pos hb] at F8
    refine lp_comp (l := D1) (its := [v1, v2]) (qs := [(x, y + hi, W, H - hi), (x + wi, y, W - wi, hi)]) (own := ow) F8 (if_pos rfl) N9 (k1 _ d1) ⟨p1.imp k1, p2.imp k1, trivial⟩ (Nat.le_of_ble_eq_true rfl) (by ktr_rel) fun D ys h' tk' hys F' N' hD => ?_
    clear F8 N9
    k_steps
    refine ret D ys ow _ _ (by k_asm) (by k_asm) ?_ (own_cons (fun r hr => hD r (List.mem_append_right _ hr)) hO)
    unfold lawCut
    rw [if_pos hb]
    exact hys
  · rw [if_neg hb] at F8
    refine lp_comp (l := D2) (its := [v3, v4]) (qs := [(x, y + hi, wi, H - hi), (x + wi, y, W - wi, H)]) (own := ow) F8 (if_pos rfl) N9 (k2 _ d2) ⟨p3.imp k2, p4.imp k2, trivial⟩ (Nat.le_of_ble_eq_true rfl) (by ktr_rel) fun D ys h' tk' hys F' N' hD => ?_
    clear F8 N9
    k_steps
    refine ret D ys ow _ _ (by k_asm) (by k_asm) ?_ (own_cons (fun r hr => hD r (List.mem_append_right _ hr)) hO)
    unfold lawCut
    rw [if_neg hb]
    exact hys
end
end Mine
namespace Mine
section
variable {prog : Program} {w : World} {A : Around} {R : Result → Shared → Prop}
theorem turn_outer (elt t0 i0 t1 i1 : Expr) (ifs : List Expr) (scope : Scope) (pos : Pos) (it acc : Value) (env : Env) :
    compTurn (.ListComp elt [⟨t0, i0, [], 0⟩, ⟨t1, i1, ifs, 0⟩] scope pos) 0 it acc env = (standAt i0.pos >>= fun _ => pyNext it >>= fun r => match r with
      | none => pure (.done .next)
      | some v => letOwnedTupleGo t0 it v >>= fun _ => assign t0 env v >>= fun _ =>
        (eval i1 env >>= fun x => standAt i1.pos >>= fun _ => foldedSetIterable i1 env x >>= fun x => holding [x] (pyIter x) >>= fun it2 =>
          runOwn (.compStart (.ListComp elt [⟨t0, i0, [], 0⟩, ⟨t1, i1, ifs, 0⟩] scope pos) 1 it2 acc env) env >>= fun _ => again (.compLoop (.ListComp elt [⟨t0, i0, [], 0⟩, ⟨t1, i1, ifs, 0⟩] scope pos) 0 it acc env))) := by rfl
theorem turn_inner (elt t0 i0 t1 i1 : Expr) (ifs : List Expr) (scope : Scope) (pos : Pos) (it acc : Value) (env : Env) :
    compTurn (.ListComp elt [⟨t0, i0, [], 0⟩, ⟨t1, i1, ifs, 0⟩] scope pos) 1 it acc env = (standAt i1.pos >>= fun _ => pyNext it >>= fun r => match r with
      | none => pure (.done .next)
      | some v => letOwnedTupleGo t1 it v >>= fun _ => assign t1 env v >>= fun _ =>
        (forIn ifs true fun c r => if r = true then do let ok ← isTrue c env (eval c env); pure (ForInStep.yield ok) else pure (ForInStep.yield r)) >>= fun ok =>
        if ok = true then ((eval elt env >>= fun x => call (.builtin "list.append") [acc, x] >>= fun _ => pure ()) >>= fun _ => again (.compLoop (.ListComp elt [⟨t0, i0, [], 0⟩, ⟨t1, i1, ifs, 0⟩] scope pos) 1 it acc env))
        else again (.compLoop (.ListComp elt [⟨t0, i0, [], 0⟩, ⟨t1, i1, ifs, 0⟩] scope pos) 1 it acc env)) := by rfl
theorem start_inner {s : Shared} {elt t0 i0 t1 i1 : Expr} {ifs : List Expr} {scope : Scope} {pos : Pos} {it acc : Value} {env : Env}
    (h0 : codeAny (model prog w) A (.compLoop (.ListComp elt [⟨t0, i0, [], 0⟩, ⟨t1, i1, ifs, 0⟩] scope pos) 1 it acc env) R s)
    (h : wpAny (model prog w) A (pyIter it) (fun it' s' => codeAny (model prog w) A (.compLoop (.ListComp elt [⟨t0, i0, [], 0⟩, ⟨t1, i1, ifs, 0⟩] scope pos) 1 it' acc env) R s') (notedBy (model prog w) A env fun x s' => R (.error x) s') s) :
    codeAny (model prog w) A (.compStart (.ListComp elt [⟨t0, i0, [], 0⟩, ⟨t1, i1, ifs, 0⟩] scope pos) 1 it acc env) R s := by
  refine codeAny_of_tree ?_
  show wpAny _ _ ((compStart (.ListComp elt [⟨t0, i0, [], 0⟩, ⟨t1, i1, ifs, 0⟩] scope pos) 1 it acc env).onRaise (fun x => do noteFrame x env; standAt theWindowsPlace)) _ _ s
  refine wpAny_notedAt ?_
  unfold compStart
  show wpAny _ _ (ask >>= _) _ _ s
  refine wpAny_bind (wpAny_askSetting (wpAny_ite ?_))
  split
  · first
      | exact wpAny_pure (And.intro rfl h0)
      | exact wpAny_bind (wpAny_pure (wpAny_pure (And.intro rfl h0)))
  · refine wpAny_bind (wpAny_rule ?_)
    show wpAny _ _ (standAt i1.pos >>= _) _ _ s
    exact wpAny_bind (wpAny_standAt (wpAny_bind (wpAny_mono h (fun it' s' h' => wpAny_pure (And.intro rfl h')) fun _ _ x => x)))
/-- the outer clause's loop -/
theorem loop_outer {s : Shared} {elt t0 i0 t1 i1 : Expr} {ifs : List Expr} {scope : Scope} {pos : Pos} {it acc : Value} {env : Env} (I : Nat → Shared → Prop)
    (turn : ∀ n s, I n s → wpAny (model prog w) A (pyNext it) (fun r s₁ => match r with
      | none => R (.ok .next) s₁
      | some v => wpAny (model prog w) A (assign t0 env v) (fun _ s₂ => wpAny (model prog w) A (eval i1 env) (fun x s₃ => wpAny (model prog w) A (pyIter x) (fun it2 s₄ =>
          codeAny (model prog w) A (.compStart (.ListComp elt [⟨t0, i0, [], 0⟩, ⟨t1, i1, ifs, 0⟩] scope pos) 1 it2 acc env) (fun r s₅ => match r with
            | .ok _ => ∃ m, m < n ∧ I m s₅
            | .error e => cameBackBy (model prog w) A env (notedBy (model prog w) A env fun e s' => R (.error e) s') e s₅) s₄)
          (notedBy (model prog w) A env fun e s' => R (.error e) s') s₃) (notedBy (model prog w) A env fun e s' => R (.error e) s') s₂) (notedBy (model prog w) A env fun e s' => R (.error e) s') s₁)
      (notedBy (model prog w) A env fun e s' => R (.error e) s') s)
    (n : Nat) (h : I n s) (hh : A.handled = none) (hs : ∀ x, foldedSetIterable i1 env x = pure x) (ht : autoParam (∀ v, letOwnedTupleGo t0 it v = pure ()) Mine.aT13) :
    codeAny (model prog w) A (.compLoop (.ListComp elt [⟨t0, i0, [], 0⟩, ⟨t1, i1, ifs, 0⟩] scope pos) 0 it acc env) R s := by
  refine codeAny_loop rfl I (fun n s hI => ?_) n h
  show wpAny _ A ((compTurn (.ListComp elt [⟨t0, i0, [], 0⟩, ⟨t1, i1, ifs, 0⟩] scope pos) 0 it acc env).onRaise (fun x => do noteFrame x env; theTreesLotGoes x)) _ _ s
  refine wpAny_noted ?_
  rw [turn_outer]
  refine wpAny_bind (wpAny_standAt (wpAny_bind (wpAny_mono (turn n s hI) (fun r s₁ h₁ => ?_) fun _ _ h' => h')))
  cases r with
  | none => exact wpAny_pure h₁
  | some v =>
    refine wpAny_bind (wpAny_of_eq (ht v) ?_)
    refine wpAny_bind (wpAny_mono h₁ (fun _ s₂ h₂ => ?_) fun _ _ h' => h')
    refine wpAny_bind (wpAny_mono h₂ (fun x s₃ h₃ => ?_) fun _ _ h' => h')
    refine wpAny_bind (wpAny_standAt (wpAny_bind (wpAny_of_eq (hs x) (wpAny_bind (wpAny_holding (wpAny_mono h₃ (fun it2 s₄ h₄ => ?_) fun _ _ h' => h'))))))
    have hm : A.mark none = A := by
      obtain ⟨hd, d, f, g, u⟩ := A
      cases hh; rfl
    refine wpAny_bind (wpAny_runOwn (hm.symm ▸ codeAny_mono h₄ fun r s₅ h₅ => ?_))
    cases r with
    | ok f => exact wpAny_pure ⟨rfl, h₅⟩
    | error e => exact h₅
/-- the inner clause's loop -/
theorem loop_inner {s : Shared} {elt t0 i0 t1 i1 ct : Expr} {scope : Scope} {pos : Pos} {it acc : Value} {env : Env} (I : Nat → Shared → Prop)
    (turn : ∀ n s, I n s → wpAny (model prog w) A (pyNext it) (fun r s₁ => match r with
      | none => R (.ok .next) s₁
      | some v => wpAny (model prog w) A (letOwnedTupleGo t1 it v) (fun _ s₁' => wpAny (model prog w) A (assign t1 env v) (fun _ s₂ =>
          wpAny (model prog w) A (isTrue ct env (eval ct env)) (fun ok s₃ =>
            if ok = true then wpAny (model prog w) A (eval elt env) (fun x s₄ =>
              wpAny (model prog w) A (call (.builtin "list.append") [acc, x]) (fun _ s₅ => ∃ m, m < n ∧ I m s₅) (notedBy (model prog w) A env fun e s' => R (.error e) s') s₄) (notedBy (model prog w) A env fun e s' => R (.error e) s') s₃
            else ∃ m, m < n ∧ I m s₃) (notedBy (model prog w) A env fun e s' => R (.error e) s') s₂) (notedBy (model prog w) A env fun e s' => R (.error e) s') s₁') (notedBy (model prog w) A env fun e s' => R (.error e) s') s₁)
      (notedBy (model prog w) A env fun e s' => R (.error e) s') s)
    (n : Nat) (h : I n s) :
    codeAny (model prog w) A (.compLoop (.ListComp elt [⟨t0, i0, [], 0⟩, ⟨t1, i1, [ct], 0⟩] scope pos) 1 it acc env) R s := by
  refine codeAny_loop rfl I (fun n s hI => ?_) n h
  show wpAny _ A ((compTurn (.ListComp elt [⟨t0, i0, [], 0⟩, ⟨t1, i1, [ct], 0⟩] scope pos) 1 it acc env).onRaise (fun x => do noteFrame x env; theTreesLotGoes x)) _ _ s
  refine wpAny_noted ?_
  rw [turn_inner]
  refine wpAny_bind (wpAny_standAt (wpAny_bind (wpAny_mono (turn n s hI) (fun r s₁ h₁ => ?_) fun _ _ h' => h')))
  cases r with
  | none => exact wpAny_pure h₁
  | some v =>
    refine wpAny_bind (wpAny_mono h₁ (fun _ s₁' h₁' => ?_) fun _ _ h' => h')
    refine wpAny_bind (wpAny_mono h₁' (fun _ s₂ h₂ => wpAny_bind (wpAny_mono (wpAny_tests_one h₂) (fun ok s₃ h₃ => ?_) fun _ _ h' => h')) fun _ _ h' => h')
    cases ok with
    | false => exact wpAny_pure ⟨rfl, h₃⟩
    | true => exact wpAny_bind (wpAny_bind (wpAny_mono h₃ (fun x s₄ h₄ => wpAny_bind (wpAny_mono h₄ (fun _ s₅ h₅ => wpAny_pure (wpAny_pure ⟨rfl, h₅⟩)) fun _ _ h' => h')) fun _ _ h' => h'))
end
end Mine
namespace Mine
open PyProof.Rows.LCg
section
variable {w : World} {A : Around} {R : Result → Shared → Prop} {h₀ : Heap} {L : Addr} {m : Str → Option Value}
/-- a clause of the comprehension between two turns -/
inductive LoopI (h₀ : Heap) (L : Addr) (m : Str → Option Value) (I ax D C : Addr) (len : Nat) (J : Nat → List Value → List (Addr × Obj) → Prop) (P : (Str → Option Value) → Prop) (s : Shared) : Nat → Shared → Prop
  | mk (h : Heap) (tk : Tok) (i : Nat) (ys : List Value) (news' : List (Addr × Obj)) (oC : Obj) (m₂ : Str → Option Value) (hi : i ≤ len) (hit : h.IsListIter I ax i) (hJ : J i ys news') (hns : NsObj oC m₂) (hP : P m₂) (F : Fr h₀ L h m) (N : News h₀ L h ((C, oC) :: (D, lst ys) :: news')) (off : Off3 I C D news') : LoopI h₀ L m I ax D C len J P s (len + 1 - i) { s with heap := h, toks := tk }
theorem inner_loop {s : Shared} {elt t0 i0 i1 ct : Expr} {na nb x : Str} {pa pb tp : Pos} {tk0} {scope : Scope} {cl : List (Str × Addr)} {pos : Pos} {env : Env} {I2 ax D C : Addr} {its : List Value} {xv : Value}
    (J : Nat → List Value → List (Addr × Obj) → Prop) (hh : A.handled = none) (hkind : scope.kind = .function) (hna : scope.names.lookup na = some .local) (hnb : scope.names.lookup nb = some .local)
    (hab : na ≠ nb) (hxa : x ≠ na) (hxb : x ≠ nb) (hIC : @Ne Nat I2 C) (hID : @Ne Nat I2 D) (hCD : @Ne Nat C D)
    (hIL : L ≠ I2) (hI₀ : h₀.get? I2 = none) (hCL : C ≠ L) (hC₀ : h₀.get? C = none) (hDL : D ≠ L) (hD₀ : h₀.get? D = none)
    (hP : ∀ j ys news', J j ys news' → ys.length ≤ 5000 ∧ (∃ n, (ax, listOf its.toArray n) ∈ news') ∧ ∀ v, its[j]? = some v → ∃ t a b, v = .ref t ∧ (t, tupO [a, b]) ∈ news')
    (turn : ∀ j t a b ys news' oI oC m₂ h tk (E' : Value → Shared → Prop), its[j]? = some (.ref t) → (t, tupO [a, b]) ∈ news' → J j ys news' → NsObj oC m₂ → m₂ x = some xv → m₂ na = some a → m₂ nb = some b → Fr h₀ L h m →
      News h₀ L h ((I2, oI) :: (C, oC) :: (D, lst ys) :: news') → Off3 I2 C D news' →
      wpAny (model PW w) A (isTrue ct (compEnvC scope cl C env) (eval ct (compEnvC scope cl C env))) (fun ok s' => if ok = true then
        wpAny (model PW w) A (eval elt (compEnvC scope cl C env)) (CompEnd h₀ L m { s with heap := h, toks := tk } I2 oI C oC D (lst ys) (fun _ => True) (fun y news'' => J (j + 1) (ys ++ [y]) news'')) E' s'
        else CompEnd h₀ L m { s with heap := h, toks := tk } I2 oI C oC D (lst ys) (fun _ => True) (fun _ news'' => J (j + 1) ys news'') Value.none s') E' { s with heap := h, toks := tk })
    (fin : ∀ ys news' oC m₂ h tk, J its.length ys news' → NsObj oC m₂ → m₂ x = some xv → Fr h₀ L h m → News h₀ L h ((C, oC) :: (D, lst ys) :: news') → Off3 I2 C D news' → R (.ok .next) { s with heap := h, toks := tk })
    {ys₀ : List Value} {news₀ : List (Addr × Obj)} {oC₀ : Obj} {m₀ : Str → Option Value} (hJ : J 0 ys₀ news₀) (hns : NsObj oC₀ m₀) (hmx : m₀ x = some xv) (F : Fr h₀ L s.heap m) (N : News h₀ L s.heap ((C, oC₀) :: (D, lst ys₀) :: news₀)) (off : Off3 I2 C D news₀) (hit : s.heap.IsListIter I2 ax 0) :
    codeAny (model PW w) A (.compLoop (.ListComp elt [⟨t0, i0, [], 0⟩, ⟨.Tuple [.Name na pa, .Name nb pb] tk0 tp, i1, [ct], 0⟩] scope pos) 1 (.ref I2) (.ref D) (compEnvC scope cl C env)) R s := by
  refine loop_inner (LoopI h₀ L m I2 ax D C its.length J (fun m₂ => m₂ x = some xv) s) ?_ (its.length + 1) (LoopI.mk s.heap s.toks 0 ys₀ news₀ oC₀ m₀ (Nat.zero_le _) hit hJ hns hmx F N off)
  rintro k s' ⟨h, tk, j, ys, news', oC, m₂, hj, hit', hJ', hns', hmx', F', N', off'⟩
  obtain ⟨hys, ⟨n, hax⟩, hit2⟩ := hP _ _ _ hJ'
  have hl : h.IsList ax its.toArray := ⟨_, (N' _ (.tail _ (.tail _ hax))).1, rfl, _, rfl⟩
  have off3 := off'.mem
  cases hv : its[j]? with
  | none =>
    have hjl : j = its.length := Nat.le_antisymm hj (List.getElem?_eq_none_iff.mp hv)
    subst hjl
    refine wpAny_pyNext_list_end hh hit' hl (by simpa using hv) fun h₁ he => ?_
    have hk : ∀ b o, b ∉ [I2] → h.get? b = some o → h₁.get? b = some o := fun b o hb e => he b o (by simpa using hb) e
    exact fin ys news' oC m₂ h₁ _ hJ' hns' hmx' (fr_but F' hk hIL hI₀) (news_but N' hk (by
      intro p hp
      rcases List.mem_cons.mp hp with rfl | hp
      · exact Ne.symm hIC
      rcases List.mem_cons.mp hp with rfl | hp
      · exact Ne.symm hID
      · exact (off3 p hp).1)) off'
  | some v =>
    obtain ⟨t, a, b, rfl, hmt⟩ := hit2 v hv
    have hlt : j < its.length := (List.getElem?_eq_some_iff.mp hv).1
    refine wpAny_pyNext_list_item hit' hl (by simpa using hv) fun h₁ hit₁ hs₁ => ?_
    have hk₁ : ∀ b o, b ∉ [I2] → h.get? b = some o → h₁.get? b = some o := fun b o hb e => hs₁.extBut b o (by simpa using hb) e
    have N₁ : News h₀ L h₁ ((C, oC) :: (D, lst ys) :: news') := news_but N' hk₁ (by
      intro p hp
      rcases List.mem_cons.mp hp with rfl | hp
      · exact Ne.symm hIC
      rcases List.mem_cons.mp hp with rfl | hp
      · exact Ne.symm hID
      · exact (off3 p hp).1)
    have F₁ := fr_but F' hk₁ hIL hI₀
    have ht : PyProof.Rows.IsTup h₁ t #[a, b] := ⟨_, (N₁ _ (.tail _ (.tail _ hmt))).1, rfl, _, rfl⟩
    refine wpAny_letOwnedTupleGo_listiter hit₁ ?_
    refine PyProof.Rows.assign_Tuple_tuple hh ht rfl rfl fun h₅ he => ?_
    have he' : ∀ b o, h₁.get? b = some o → h₅.get? b = some o := fun b o e => he b o (Nat.ne_of_lt (Heap.lt_size e)) e
    have hn₁ : h₅.Ns C m₂ := (hns'.ns (N₁ _ (.head _)).1).at' fun o e => he' _ o e
    refine PyProof.Rows.assignInOrder_cons (wpAny_assign_Name (wpAny_storeName_local (lookup_relabel_local hna) hn₁ (fun h₆ hn₆ hs₆ => ?_) (by simp [compEnvC, relabel, hkind])))
    refine PyProof.Rows.assignInOrder_cons (wpAny_assign_Name (wpAny_storeName_local (lookup_relabel_local hnb) hn₆ (fun h₃ hn₃ hs₃ => ?_) (by simp [compEnvC, relabel, hkind])))
    refine PyProof.Rows.assignInOrder_nil ?_
    have old3 : ∀ b o, b ≠ C → h₁.get? b = some o → h₃.get? b = some o := fun b o hb e => hs₃.extBut b o hb (hs₆.extBut b o hb (he' b o e))
    obtain ⟨oC', heC, hoC⟩ := ns_obj hn₃
    have F₃ : Fr h₀ L h₃ m := ((F₁.keeps he').change hs₆ hCL hC₀).change hs₃ hCL hC₀
    obtain ⟨oI, heI, hIr⟩ := hit₁
    have N₃ : News h₀ L h₃ ((I2, oI) :: (C, oC') :: (D, lst ys) :: news') := fun p hp => by
      rcases List.mem_cons.mp hp with rfl | hp
      · exact ⟨old3 _ _ hIC heI, Ne.symm hIL, hI₀⟩
      rcases List.mem_cons.mp hp with rfl | hp
      · exact ⟨heC, hCL, hC₀⟩
      have z := N₁ p (.tail _ hp)
      refine ⟨old3 _ _ ?_ z.1, z.2⟩
      rcases List.mem_cons.mp hp with rfl | hp
      · exact Ne.symm hCD
      · exact (off3 p hp).2.1
    have w1 : (fun z => if z = nb then some b else if z = na then some a else m₂ z) x = some xv := by
      show (if x = nb then _ else if x = na then _ else m₂ x) = _
      rw [if_neg hxb, if_neg hxa]; exact hmx'
    have w2 : (fun z => if z = nb then some b else if z = na then some a else m₂ z) na = some a := by
      show (if na = nb then _ else if na = na then _ else m₂ na) = _
      rw [if_neg hab, if_pos rfl]
    have w3 : (fun z => if z = nb then some b else if z = na then some a else m₂ z) nb = some b := if_pos rfl
    refine wpAny_mono (turn j t a b ys news' oI oC' _ h₃ _ _ hv hmt hJ' hoC w1 w2 w3 F₃ N₃ off') (fun ok s₃ h₃' => ?_) fun _ _ e => e
    cases ok with
    | false =>
      simp only [Bool.false_eq_true, if_false] at h₃' ⊢
      obtain ⟨h₄, tk₄, news₄, rfl, F₄, N₄, off₄, _, J₄⟩ := h₃'
      exact ⟨its.length + 1 - (j + 1), by omega, LoopI.mk h₄ tk₄ (j + 1) ys news₄ oC' _ hlt ⟨oI, (N₄ _ (.head _)).1, hIr⟩ J₄ hoC w1 F₄ (fun p hp => N₄ p (.tail _ hp)) off₄⟩
    | true =>
      simp only [if_true] at h₃' ⊢
      refine wpAny_mono h₃' (fun y s₄ h₄' => ?_) fun _ _ e => e
      obtain ⟨h₄, tk₄, news₄, rfl, F₄, N₄, off₄, _, J₄⟩ := h₄'
      have zD := (N₄ (D, lst ys) (.tail _ (.tail _ (.head _)))).1
      have off4 := off₄.mem
      refine PyProof.Rows.append_at (hsz := by show ys.toArray.size ≤ sizeLine; rw [List.size_toArray]; exact Nat.le_trans hys (by rw [PySem.sizeLine_eq]; decide)) zD fun h₅ hs₅ hD₅ => ?_
      refine ⟨its.length + 1 - (j + 1), by omega, LoopI.mk h₅ tk₄ (j + 1) (ys ++ [y]) news₄ oC' _ hlt ⟨oI, hs₅.extBut _ _ hID (N₄ _ (.head _)).1, hIr⟩ J₄ hoC w1 (F₄.change hs₅ hDL hD₀) (fun p hp => ?_) off₄⟩
      rcases List.mem_cons.mp hp with rfl | hp
      · exact ⟨hs₅.extBut _ _ hCD (N₄ _ (.tail _ (.head _))).1, hCL, hC₀⟩
      rcases List.mem_cons.mp hp with rfl | hp
      · exact ⟨hD₅.trans (congrArg some (lst_snoc ys y)), hDL, hD₀⟩
      have z := N₄ p (.tail _ (.tail _ (.tail _ hp)))
      exact ⟨hs₅.extBut _ _ (off4 p hp).2.2 z.1, z.2⟩
end
end Mine
namespace Mine
open PyProof.Rows.LCg
section
variable {w : World} {A : Around} {R : Result → Shared → Prop} {h₀ : Heap} {L : Addr} {m : Str → Option Value}
/-- both clauses: the first over the list at ax₀ -/
theorem outer_loop {s : Shared} {elt i0 i1 ct : Expr} {na nb x : Str} {pa pb px tp : Pos} {tk0} {scope : Scope} {cl : List (Str × Addr)} {pos : Pos} {env : Env} {I ax₀ D C : Addr} {its₀ : List Value}
    (J : Nat → List Value → List (Addr × Obj) → Prop) (J1 : Nat → Addr → List Value → Nat → List Value → List (Addr × Obj) → Prop) (hh : A.handled = none) (hkind : scope.kind = .function) (hx : scope.names.lookup x = some .local) (hna : scope.names.lookup na = some .local) (hnb : scope.names.lookup nb = some .local)
    (hab : na ≠ nb) (hxa : x ≠ na) (hxb : x ≠ nb) (hIC : @Ne Nat I C) (hID : @Ne Nat I D) (hCD : @Ne Nat C D)
    (hIL : L ≠ I) (hI₀ : h₀.get? I = none) (hCL : C ≠ L) (hC₀ : h₀.get? C = none) (hDL : D ≠ L) (hD₀ : h₀.get? D = none)
    (hs : ∀ C x, foldedSetIterable i1 (compEnvC scope cl C env) x = pure x)
    (hP : ∀ i ys news', J i ys news' → ∃ n, (ax₀, listOf its₀.toArray n) ∈ news')
    (hP1 : ∀ i ax its j ys news', J1 i ax its j ys news' → ys.length ≤ 5000 ∧ (∃ n, (ax, listOf its.toArray n) ∈ news') ∧ ∀ v, its[j]? = some v → ∃ t a b, v = .ref t ∧ (t, tupO [a, b]) ∈ news')
    (turn0 : ∀ i v ys news' oI oC m₂ h tk (E' : Value → Shared → Prop), its₀[i]? = some v → J i ys news' → NsObj oC m₂ → m₂ x = some v → Fr h₀ L h m → News h₀ L h ((I, oI) :: (C, oC) :: (D, lst ys) :: news') → Off3 I C D news' →
      wpAny (model PW w) A (eval i1 (compEnvC scope cl C env)) (fun xv s' => ∃ ax its h' tk' news'', xv = .ref ax ∧ s' = { s with heap := h', toks := tk' } ∧ Fr h₀ L h' m ∧ News h₀ L h' ((I, oI) :: (C, oC) :: (D, lst ys) :: news'') ∧ Off3 I C D news'' ∧ J1 i ax its 0 ys news'') E' { s with heap := h, toks := tk })
    (turn1 : ∀ i xv ax its j t a b ys news' I2 oI2 oI oC m₂ h tk (E' : Value → Shared → Prop), its₀[i]? = some xv → its[j]? = some (.ref t) → (t, tupO [a, b]) ∈ news' → J1 i ax its j ys news' → NsObj oC m₂ → m₂ x = some xv → m₂ na = some a → m₂ nb = some b → Fr h₀ L h m →
      News h₀ L h ((I2, oI2) :: (C, oC) :: (D, lst ys) :: (I, oI) :: news') → Off3 I2 C D ((I, oI) :: news') → Off3 I C D news' →
      wpAny (model PW w) A (isTrue ct (compEnvC scope cl C env) (eval ct (compEnvC scope cl C env))) (fun ok s' => if ok = true then
        wpAny (model PW w) A (eval elt (compEnvC scope cl C env)) (CompEnd h₀ L m { s with heap := h, toks := tk } I2 oI2 C oC D (lst ys) (fun _ => True) (fun y nw => ∃ news'', nw = (I, oI) :: news'' ∧ Off3 I C D news'' ∧ J1 i ax its (j + 1) (ys ++ [y]) news'')) E' s'
        else CompEnd h₀ L m { s with heap := h, toks := tk } I2 oI2 C oC D (lst ys) (fun _ => True) (fun _ nw => ∃ news'', nw = (I, oI) :: news'' ∧ Off3 I C D news'' ∧ J1 i ax its (j + 1) ys news'') Value.none s') E' { s with heap := h, toks := tk })
    (next : ∀ i ax its ys news', J1 i ax its its.length ys news' → J (i + 1) ys news')
    (fin : ∀ ys news' oC m₂ h tk, J its₀.length ys news' → NsObj oC m₂ → Fr h₀ L h m → News h₀ L h ((C, oC) :: (D, lst ys) :: news') → Off3 I C D news' → R (.ok .next) { s with heap := h, toks := tk })
    {ys₀ : List Value} {news₀ : List (Addr × Obj)} {oC₀ : Obj} {m₀ : Str → Option Value} (hJ : J 0 ys₀ news₀) (hns : NsObj oC₀ m₀) (F : Fr h₀ L s.heap m) (N : News h₀ L s.heap ((C, oC₀) :: (D, lst ys₀) :: news₀)) (off : Off3 I C D news₀) (hit : s.heap.IsListIter I ax₀ 0) :
    codeAny (model PW w) A (.compLoop (.ListComp elt [⟨.Name x px, i0, [], 0⟩, ⟨.Tuple [.Name na pa, .Name nb pb] tk0 tp, i1, [ct], 0⟩] scope pos) 0 (.ref I) (.ref D) (compEnvC scope cl C env)) R s := by
  refine loop_outer (LoopI h₀ L m I ax₀ D C its₀.length J (fun _ => True) s) ?_ (its₀.length + 1) (LoopI.mk s.heap s.toks 0 ys₀ news₀ oC₀ m₀ (Nat.zero_le _) hit hJ hns trivial F N off) hh (hs C)
  rintro k s' ⟨h, tk, i, ys, news', oC, m₂, hi, hit', hJ', hns', -, F', N', off'⟩
  obtain ⟨n, hax⟩ := hP _ _ _ hJ'
  have hl : h.IsList ax₀ its₀.toArray := ⟨_, (N' _ (.tail _ (.tail _ hax))).1, rfl, _, rfl⟩
  have off3 := off'.mem
  have offI : ∀ p ∈ (C, oC) :: (D, lst ys) :: news', p.1 ≠ I := by
    intro p hp
    rcases List.mem_cons.mp hp with rfl | hp
    · exact Ne.symm hIC
    rcases List.mem_cons.mp hp with rfl | hp
    · exact Ne.symm hID
    · exact (off3 p hp).1
  cases hv : its₀[i]? with
  | none =>
    have hjl : i = its₀.length := Nat.le_antisymm hi (List.getElem?_eq_none_iff.mp hv)
    subst hjl
    refine wpAny_pyNext_list_end hh hit' hl (by simpa using hv) fun h₁ he => ?_
    have hk : ∀ b o, b ∉ [I] → h.get? b = some o → h₁.get? b = some o := fun b o hb e => he b o (by simpa using hb) e
    exact fin ys news' oC m₂ h₁ _ hJ' hns' (fr_but F' hk hIL hI₀) (news_but N' hk offI) off'
  | some v =>
    have hlt : i < its₀.length := (List.getElem?_eq_some_iff.mp hv).1
    refine wpAny_pyNext_list_item hit' hl (by simpa using hv) fun h₁ hit₁ hs₁ => ?_
    have hk₁ : ∀ b o, b ∉ [I] → h.get? b = some o → h₁.get? b = some o := fun b o hb e => hs₁.extBut b o (by simpa using hb) e
    have N₁ : News h₀ L h₁ ((C, oC) :: (D, lst ys) :: news') := news_but N' hk₁ offI
    have F₁ := fr_but F' hk₁ hIL hI₀
    have hn₁ : h₁.Ns C m₂ := hns'.ns (N₁ _ (.head _)).1
    refine wpAny_assign_Name (wpAny_storeName_local (lookup_relabel_local hx) hn₁ (fun h₃ hn₃ hs₃ => ?_) (by simp [compEnvC, relabel, hkind]))
    obtain ⟨oC', heC, hoC⟩ := ns_obj hn₃
    have F₃ : Fr h₀ L h₃ m := F₁.change hs₃ hCL hC₀
    obtain ⟨oI, heI, hIr⟩ := hit₁
    have N₃ : News h₀ L h₃ ((I, oI) :: (C, oC') :: (D, lst ys) :: news') := fun p hp => by
      rcases List.mem_cons.mp hp with rfl | hp
      · exact ⟨hs₃.extBut _ _ hIC heI, Ne.symm hIL, hI₀⟩
      rcases List.mem_cons.mp hp with rfl | hp
      · exact ⟨heC, hCL, hC₀⟩
      have z := N₁ p (.tail _ hp)
      refine ⟨hs₃.extBut _ _ ?_ z.1, z.2⟩
      rcases List.mem_cons.mp hp with rfl | hp
      · exact Ne.symm hCD
      · exact (off3 p hp).2.1
    refine wpAny_mono (turn0 i v ys news' oI oC' _ h₃ _ _ hv hJ' hoC (if_pos rfl) F₃ N₃ off') (fun xv s₃ h₃' => ?_) fun _ _ e => e
    obtain ⟨ax, its, h₄, tk₄, news'', rfl, rfl, F₄, N₄, off₄, hJ1⟩ := h₃'
    obtain ⟨_, ⟨n2, hax2⟩, _⟩ := hP1 _ _ _ _ _ _ hJ1
    have hl2 : h₄.IsList ax its.toArray := ⟨_, (N₄ _ (.tail _ (.tail _ (.tail _ hax2)))).1, rfl, _, rfl⟩
    refine wpAny_pyIter_list hl2 ?_
    dsimp only
    have up : ∀ b o, h₄.get? b = some o → (h₄.push { cls := .type "list_iterator", data := .fields #[.ref ax, .int 0 0] }).get? b = some o := fun b o e => Heap.get?_push_of_some _ e
    have F₅ := F₄.keeps up
    have N₅ := N₄.grown up
    have off4 := off₄.mem
    have hCs : C < h₄.objs.size := Heap.lt_size (N₄ _ (.tail _ (.head _))).1
    have hDs : D < h₄.objs.size := Heap.lt_size (N₄ _ (.tail _ (.tail _ (.head _)))).1
    have hLs : L < h₄.objs.size := F₄.ns.lt
    have hit2 : (h₄.push { cls := .type "list_iterator", data := .fields #[.ref ax, .int 0 0] }).IsListIter h₄.objs.size ax 0 := ⟨_, Heap.get?_push_size _ rfl, rfl, rfl⟩
    have h20 : h₀.get? h₄.objs.size = none := by
      cases e : h₀.get? h₄.objs.size with
      | none => rfl
      | some o => exact absurd (Heap.lt_size (F₄.keep _ _ e)) (Nat.lt_irrefl _)
    have loop := inner_loop (w := w) (A := A) (s := { s with heap := h₄.push { cls := .type "list_iterator", data := .fields #[.ref ax, .int 0 0] }, toks := tk₄ }) (elt := elt) (t0 := .Name x px) (i0 := i0) (i1 := i1) (ct := ct) (pa := pa) (pb := pb) (tp := tp) (tk0 := tk0) (pos := pos) (env := env) (cl := cl) (xv := v) (m := m)
      (R := fun r s₅ => match r with
      | Except.ok a => ∃ m_1, m_1 < its₀.length + 1 - i ∧ LoopI h₀ L m I ax₀ D C its₀.length J (fun _ => True) s m_1 s₅
      | Except.error e => cameBackBy (model PW w) A (compEnvC scope cl C env) (notedBy (model PW w) A (compEnvC scope cl C env) fun e s' => R (Except.error e) s') e s₅)
      (fun j ys nw => ∃ nw', nw = (I, oI) :: nw' ∧ Off3 I C D nw' ∧ J1 i ax its j ys nw') hh hkind hna hnb hab hxa hxb (Ne.symm (Nat.ne_of_lt hCs)) (Ne.symm (Nat.ne_of_lt hDs)) hCD (Nat.ne_of_lt hLs) h20 hCL hC₀ hDL hD₀
      (fun j ys nw ⟨nw', e, _, hj⟩ => by
        subst e
        obtain ⟨q1, ⟨n, q2⟩, q3⟩ := hP1 _ _ _ _ _ _ hj
        exact ⟨q1, ⟨n, .tail _ q2⟩, fun v hv => by obtain ⟨t, a, b, e, hm⟩ := q3 v hv; exact ⟨t, a, b, e, .tail _ hm⟩⟩)
      (fun j t a b ys nw oI2 oC m₂ h tk E' hj hmt hJj hns hmx hma hmb F N off => by
        obtain ⟨nw', e, o1, hj1⟩ := hJj
        subst e
        have hmt' : (t, tupO [a, b]) ∈ nw' := by
          obtain ⟨_, _, q3⟩ := hP1 _ _ _ _ _ _ hj1
          obtain ⟨t', a', b', e, hm⟩ := q3 _ hj
          cases e
          have z1 := (N _ (.tail _ (.tail _ (.tail _ (.tail _ hm))))).1
          have z2 := (N _ (.tail _ (.tail _ (.tail _ hmt)))).1
          rw [z1] at z2
          have e2 : tupO [a', b'] = tupO [a, b] := Option.some.inj z2
          rw [← e2]
          exact hm
        exact turn1 i v ax its j t a b ys nw' _ oI2 oI oC m₂ h tk E' hv hj hmt' hj1 hns hmx hma hmb F N off o1)
      (fun ys nw oC m₂ h tk hJj hns hmx F N off => by
        obtain ⟨nw', e, o1, hj1⟩ := hJj
        subst e
        refine ⟨its₀.length + 1 - (i + 1), by omega, LoopI.mk h tk (i + 1) ys nw' oC m₂ hlt ⟨oI, (N _ (.tail _ (.tail _ (.head _)))).1, hIr⟩ (next _ _ _ _ _ hj1) hns trivial F (fun p hp => ?_) o1⟩
        rcases List.mem_cons.mp hp with rfl | hp
        · exact N _ (.head _)
        rcases List.mem_cons.mp hp with rfl | hp
        · exact N _ (.tail _ (.head _))
        · exact N _ (.tail _ (.tail _ (.tail _ hp))))
      (ys₀ := ys) (news₀ := (I, oI) :: news'') (oC₀ := oC') ⟨news'', rfl, off₄, hJ1⟩ hoC (if_pos rfl) F₅ (fun p hp => by
        rcases List.mem_cons.mp hp with rfl | hp
        · exact N₅ _ (.tail _ (.head _))
        rcases List.mem_cons.mp hp with rfl | hp
        · exact N₅ _ (.tail _ (.tail _ (.head _)))
        rcases List.mem_cons.mp hp with rfl | hp
        · exact N₅ _ (.head _)
        · exact N₅ _ (.tail _ (.tail _ (.tail _ hp))))
      (Off3.of fun p hp => by
        rcases List.mem_cons.mp hp with rfl | hp
        · exact ⟨Nat.ne_of_lt (Heap.lt_size (N₄ _ (.head _)).1), hIC, hID⟩
        · exact ⟨Nat.ne_of_lt (Heap.lt_size (N₄ _ (.tail _ (.tail _ (.tail _ hp)))).1), (off4 p hp).2.1, (off4 p hp).2.2⟩) hit2
    exact start_inner loop (wpAny_pyIter_listiter hit2 loop)
end
end Mine
namespace Mine
open PyProof.Rows.LCg
section
variable {w : World} {A : Around} {E : Value → Shared → Prop} {h₀ : Heap} {L : Addr} {m : Str → Option Value} {news : List (Addr × Obj)}
theorem assign_comp2 {s : Shared} {elt i0 i1 ct : Expr} {na nb x y : Str} {pa pb px py tp : Pos} {tk0} {scope : Scope} {cl : List (Str × Addr)} {pos spos : Pos} {env : Env} {ax₀ : Addr} {its₀ : List Value} {n₀ : Nat} {Q : Flow → Shared → Prop}
    (J : Nat → List Value → List (Addr × Obj) → Prop) (J1 : Nat → Addr → List Value → Nat → List Value → List (Addr × Obj) → Prop) (hLe : env.locals = L)
    (hsw : swapsWith (.ListComp elt [⟨.Name x px, i0, [], 0⟩, ⟨.Tuple [.Name na pa, .Name nb pb] tk0 tp, i1, [ct], 0⟩] scope pos) (some (.Name y py)) spos.line env = pure true)
    (hclos : closureFor scope env = pure cl) (hcell : ∀ z ∈ scope.names, z.2 ≠ .cell) (hkind : scope.kind = .function)
    (hnames : ∀ z ∈ scope.names, z.2 = .local → scope.names.lookup z.1 = some .local) (hx : scope.names.lookup x = some .local) (hna : scope.names.lookup na = some .local) (hnb : scope.names.lookup nb = some .local)
    (hy : env.kindOf y = some .local) (hp : (env.scope.kind == .class || (env.scope.kind == .module && env.locals != env.globals)) = false)
    (hh : A.handled = none) (hab : na ≠ nb) (hxa : x ≠ na) (hxb : x ≠ nb)
    (hs0 : ∀ x, foldedSetIterable i0 env x = pure x) (hs : ∀ C x, foldedSetIterable i1 (compEnvC scope cl C env) x = pure x)
    (h0 : wpAny (model PW w) A (eval i0 env) (fun xv s₁ => xv = .ref ax₀ ∧ s₁ = s) E s)
    (F : Fr h₀ L s.heap m) (N : News h₀ L s.heap news) (hax : (ax₀, listOf its₀.toArray n₀) ∈ news)
    (hP : ∀ i ys news', J i ys news' → ∃ n, (ax₀, listOf its₀.toArray n) ∈ news')
    (hP1 : ∀ i ax its j ys news', J1 i ax its j ys news' → ys.length ≤ 5000 ∧ (∃ n, (ax, listOf its.toArray n) ∈ news') ∧ ∀ v, its[j]? = some v → ∃ t a b, v = .ref t ∧ (t, tupO [a, b]) ∈ news')
    (turn0 : ∀ I C D i v ys news' oI oC m₂ h tk (E' : Value → Shared → Prop), its₀[i]? = some v → J i ys news' → NsObj oC m₂ → m₂ x = some v → Fr h₀ L h m → News h₀ L h ((I, oI) :: (C, oC) :: (D, lst ys) :: news') → Off3 I C D news' →
      wpAny (model PW w) A (eval i1 (compEnvC scope cl C env)) (fun xv s' => ∃ ax its h' tk' news'', xv = .ref ax ∧ s' = { s with heap := h', toks := tk' } ∧ Fr h₀ L h' m ∧ News h₀ L h' ((I, oI) :: (C, oC) :: (D, lst ys) :: news'') ∧ Off3 I C D news'' ∧ J1 i ax its 0 ys news'') E' { s with heap := h, toks := tk })
    (turn1 : ∀ I C D i xv ax its j t a b ys news' I2 oI2 oI oC m₂ h tk (E' : Value → Shared → Prop), its₀[i]? = some xv → its[j]? = some (.ref t) → (t, tupO [a, b]) ∈ news' → J1 i ax its j ys news' → NsObj oC m₂ → m₂ x = some xv → m₂ na = some a → m₂ nb = some b → Fr h₀ L h m →
      News h₀ L h ((I2, oI2) :: (C, oC) :: (D, lst ys) :: (I, oI) :: news') → Off3 I2 C D ((I, oI) :: news') → Off3 I C D news' →
      wpAny (model PW w) A (isTrue ct (compEnvC scope cl C env) (eval ct (compEnvC scope cl C env))) (fun ok s' => if ok = true then
        wpAny (model PW w) A (eval elt (compEnvC scope cl C env)) (CompEnd h₀ L m { s with heap := h, toks := tk } I2 oI2 C oC D (lst ys) (fun _ => True) (fun y nw => ∃ news'', nw = (I, oI) :: news'' ∧ Off3 I C D news'' ∧ J1 i ax its (j + 1) (ys ++ [y]) news'')) E' s'
        else CompEnd h₀ L m { s with heap := h, toks := tk } I2 oI2 C oC D (lst ys) (fun _ => True) (fun _ nw => ∃ news'', nw = (I, oI) :: news'' ∧ Off3 I C D news'' ∧ J1 i ax its (j + 1) ys news'') Value.none s') E' { s with heap := h, toks := tk })
    (next : ∀ i ax its ys news', J1 i ax its its.length ys news' → J (i + 1) ys news')
    (hJ : J 0 [] news)
    (fin : ∀ D ys news' h tk, J its₀.length ys news' → Fr h₀ L h (fun z => if z = y then some (.ref D) else m z) → News h₀ L h ((D, lst ys) :: news') → Off1 D news' → Q .next { s with heap := h, toks := tk }) :
    wpAny (model PW w) A (exec (.Assign [.Name y py] (.ListComp elt [⟨.Name x px, i0, [], 0⟩, ⟨.Tuple [.Name na pa, .Name nb pb] tk0 tp, i1, [ct], 0⟩] scope pos) spos) env) Q E s := by
  subst hLe
  rw [exec_Assign_Name_used _ _ _ _ hsw]
  refine wpAny_bind (wpAny_standAt (wpAny_bind ?_))
  show wpAny _ A (do let _ ← comprehension (.ListComp elt [⟨.Name x px, i0, [], 0⟩, ⟨.Tuple [.Name na pa, .Name nb pb] tk0 tp, i1, [ct], 0⟩] scope pos) scope env _ (newList []) false (eval i0 env) (some (assign (.Name y py) env))) _ _ s
  refine wpAny_bind (wpAny_mono (wpAny_comprehension_free (use := some (assign (.Name y py) env)) (Q := fun _ s' => Q .next s') rfl hs0 hclos hkind hnames
    (wpAny_mono h0 (fun xv s₁ h₁ => ?_) fun _ _ e => e)) (fun _ s' hq => wpAny_pure (wpAny_pure hq)) fun _ _ e => e)
  obtain ⟨rfl, rfl⟩ := h₁
  have hl : s₁.heap.IsList ax₀ its₀.toArray := ⟨_, (N _ hax).1, rfl, _, rfl⟩
  refine wpAny_pyIter_list hl ?_
  refine wpAny_newObj_type (wpAny_newFunctionEnv hcell (by intro y hy; simp at hy) (fun h₁ hns₁ hsb₁ => ?_) hkind)
  dsimp only at hns₁ hsb₁ ⊢
  generalize e1 : s₁.heap.push { cls := Value.type "list_iterator", data := Data.fields #[Value.ref ax₀, Value.int 0 0] } = H1 at hns₁ hsb₁ ⊢
  generalize e2 : H1.push { cls := Value.type "list", data := Data.seq #[] } = H2 at hns₁ hsb₁ ⊢
  have hD1 : H1.objs.size = s₁.heap.objs.size + 1 := by rw [← e1, Heap.size_push]
  have hC1 : H2.objs.size = s₁.heap.objs.size + 2 := by rw [← e2, Heap.size_push, hD1]
  have old : ∀ b o, s₁.heap.get? b = some o → h₁.get? b = some o := fun b o e => hsb₁.extBut b o (Nat.ne_of_lt (by have z : @LT.lt Nat _ b s₁.heap.objs.size := Heap.lt_size e; show @LT.lt Nat _ b _; omega)) (Heap.get?_push_of_some _ (e2 ▸ Heap.get?_push_of_some _ (e1 ▸ Heap.get?_push_of_some _ e)))
  have fresh₀ : ∀ a, s₁.heap.objs.size ≤ a → h₀.get? a = none := fun a ha => by
    cases e : h₀.get? a with
    | none => rfl
    | some o' => exact absurd (Heap.lt_size (F.keep a o' e)) (Nat.not_lt.mpr ha)
  have hLlt : @LT.lt Nat _ env.locals s₁.heap.objs.size := F.ns.lt
  have hIt : h₁.get? s₁.heap.objs.size = some { cls := Value.type "list_iterator", data := Data.fields #[Value.ref ax₀, Value.int 0 0] } := hsb₁.extBut _ _ (by show @Ne Nat _ _; omega) (Heap.get?_push_of_some _ (e2 ▸ Heap.get?_push_of_some _ (e1 ▸ Heap.get?_push_size _ rfl)))
  have hAc : h₁.get? H1.objs.size = some (lst []) := hsb₁.extBut _ _ (by show @Ne Nat _ _; omega) (Heap.get?_push_of_some _ (e2 ▸ Heap.get?_push_size _ rfl))
  obtain ⟨oC, heC, hoC⟩ := ns_obj hns₁
  have hLC : env.locals ≠ H2.objs.size := by show @Ne Nat _ _; omega
  have hLD : env.locals ≠ H1.objs.size := by show @Ne Nat _ _; omega
  have hC₀ := fresh₀ H2.objs.size (by show @LE.le Nat _ _ _; omega)
  have hD₀ := fresh₀ H1.objs.size (by show @LE.le Nat _ _ _; omega)
  have hL₀ : h₀.get? env.locals = none := Heap.get?_none_of_le F.above
  have loop := outer_loop (w := w) (A := A) (s := { s₁ with heap := h₁, toks := s₁.toks + ([] : List (Str × Value)).length }) (elt := elt) (i0 := i0) (i1 := i1) (ct := ct) (px := px) (pa := pa) (pb := pb) (tp := tp) (tk0 := tk0) (pos := pos) (env := env) (m := m) (I := s₁.heap.objs.size) (C := H2.objs.size) (D := H1.objs.size)
    (R := fun r s' => compPost (model PW w) A E (some (assign (.Name y py) env)) (fun _ s' => Q .next s') (.ref H1.objs.size) H2.objs.size r s')
    J J1 hh hkind hx hna hnb hab hxa hxb (by show @Ne Nat _ _; omega) (by show @Ne Nat _ _; omega) (by show @Ne Nat _ _; omega) (by show @Ne Nat _ _; omega) (fresh₀ _ (Nat.le_refl _)) (Ne.symm hLC) hC₀ (Ne.symm hLD) hD₀ hs hP hP1 (turn0 _ _ _) (turn1 _ _ _) next
    (fun ys news' oC m₂ h tk hJ' hns' F' N' off' => by
      show wpAny _ A (assign (.Name y py) env (.ref H1.objs.size)) _ _ _
      refine wpAny_assign_Name (wpAny_storeName_local hy F'.ns (fun h₂ hn₂ hs₂ => ?_) hp)
      have F₂ : Fr h₀ env.locals h₂ (fun z => if z = y then some (.ref H1.objs.size) else m z) := ⟨hn₂, fun b o e => hs₂.extBut b o (fun q => by rw [q, hL₀] at e; cases e) (F'.keep b o e), F'.above⟩
      refine ⟨m₂, (hns'.ns (N' _ (.head _)).1).sameBut hs₂ (Ne.symm hLC), fun h'' hs'' => fin H1.objs.size ys news' h'' _ hJ' (F₂.change hs'' (Ne.symm hLC) hC₀) (fun p hp => ?_) off'.one⟩
      have z : h₂.get? p.1 = some p.2 := hs₂.extBut _ _ (N' p (.tail _ hp)).2.1 (N' p (.tail _ hp)).1
      refine ⟨hs''.extBut _ _ ?_ z, (N' p (.tail _ hp)).2⟩
      rcases List.mem_cons.mp hp with rfl | hp
      · show @Ne Nat _ _; omega
      · exact (off'.mem p hp).2.1)
    (ys₀ := []) (news₀ := news) (oC₀ := oC) hJ hoC (F.keeps old) (fun p hp => by
      rcases List.mem_cons.mp hp with rfl | hp
      · exact ⟨heC, Ne.symm hLC, hC₀⟩
      rcases List.mem_cons.mp hp with rfl | hp
      · exact ⟨hAc, Ne.symm hLD, hD₀⟩
      · exact ⟨old _ _ (N p hp).1, (N p hp).2⟩)
    (Off3.of fun p hp => by
      have z : @LT.lt Nat _ p.1 s₁.heap.objs.size := Heap.lt_size (N p hp).1
      exact ⟨Nat.ne_of_lt z, Nat.ne_of_lt (by show @LT.lt Nat _ p.1 _; omega), Nat.ne_of_lt (by show @LT.lt Nat _ p.1 _; omega)⟩) ⟨_, hIt, rfl, rfl⟩
  exact codeAny_compStart_list loop (wpAny_pyIter_listiter ⟨_, hIt, rfl, rfl⟩ loop)
end
end Mine
namespace Mine
open PyProof.Rows.LCg
theorem hold_assign {M : Model} {A : Around} {E : Value → Shared → Prop} {s : Shared} {Q : Flow → Shared → Prop} {t elt : Expr} {g1 g2 : Comprehension} {sc : Scope} {p p2 : Pos} {env : Env} (h : Hold (wpAny M A (exec (.Assign [t] (.ListComp elt [g1, g2] sc p) p2) env) Q E s)) : wpAny M A (exec (.Assign [t] (.ListComp elt [g1, g2] sc p) p2) env) Q E s := h.get
local macro_rules | `(tactic| walk_at "exec Assign cons ListComp") => Mine.sHold "Mine.hold_assign"
theorem hold_lv {M : Model} {A : Around} {E : Value → Shared → Prop} {s : Shared} {Q : Value → Shared → Prop} {vs : List Value} (h : Hold (wpAny M A (call (.ref 813) vs) Q E s)) : wpAny M A (call (.ref 813) vs) Q E s := h.get
local macro_rules | `(tactic| walk_at "call ref") => Mine.sHold "Mine.hold_lv"
/-- the turns that are let -/
noncomputable def pairsOf (rotb : Bool) (wi hi : Int) : List (Int × Int) := if rotb then [(wi, hi), (hi, wi)] else [(wi, hi)]
noncomputable def valsOf (k : Nat) (rotb : Bool) (wi hi : Int) (q : Q4) : List Int := (pairsOf rotb wi hi).filterMap fun ab => fitV k q.2.2.1 q.2.2.2 ab.1 ab.2
/-- the least of a list, or none -/
noncomputable def LeastV (l : List Int) (v : Value) : Prop := (l = [] ∧ v = .none) ∨ ∃ n t, v = .int n t ∧ n ∈ l ∧ ∀ x ∈ l, n ≤ x
theorem pairs_pos {rotb : Bool} {wi hi : Int} {ab : Int × Int} (hw : 0 < wi) (hh : 0 < hi) (h : ab ∈ pairsOf rotb wi hi) : 0 ≤ ab.1 ∧ 0 ≤ ab.2 := by
  unfold pairsOf at h
  cases rotb
  · rw [if_neg Bool.false_ne_true, List.mem_singleton] at h
    subst h; exact ⟨Int.le_of_lt hw, Int.le_of_lt hh⟩
  · rw [if_pos rfl] at h
    rcases List.mem_cons.mp h with rfl | h
    · exact ⟨Int.le_of_lt hw, Int.le_of_lt hh⟩
    · rw [List.mem_singleton.mp h]; exact ⟨Int.le_of_lt hh, Int.le_of_lt hw⟩
theorem fitV_out {k : Nat} {W H a b : Int} (h : ¬ (a ≤ W ∧ b ≤ H)) : fitV k W H a b = none := by
  have h' : a > W ∨ b > H := by omega
  unfold fitV
  split
  · exact if_pos h'
  · exact if_pos h'
  · exact if_pos h'
theorem fm_some {α β : Type} {f : α → Option β} {a : α} {b : β} (h : f a = some b) : List.filterMap f [a] = [b] := List.filterMap_cons_some h
theorem fm_none {α β : Type} {f : α → Option β} {a : α} (h : f a = none) : List.filterMap f [a] = [] := List.filterMap_cons_none h
theorem vals_len {k : Nat} {rotb : Bool} {wi hi : Int} : ∀ qs : List Q4, (qs.flatMap (valsOf k rotb wi hi)).length ≤ 2 * qs.length
  | [] => Nat.le_refl _
  | q :: qs => by
    have := vals_len (k := k) (rotb := rotb) (wi := wi) (hi := hi) qs
    have h2 : (valsOf k rotb wi hi q).length ≤ 2 := Nat.le_trans (List.length_filterMap_le _ _) (by unfold pairsOf; split <;> exact Nat.le_of_ble_eq_true rfl)
    rw [List.flatMap_cons, List.length_append, List.length_cons]
    omega
theorem off1_mem {D : Addr} : ∀ {l : List (Addr × Obj)}, Off1 D l → ∀ p ∈ l, @Ne Nat p.1 D
  | [], _, _, h => nomatch h
  | _ :: _, x, p, h => by
    rcases List.mem_cons.mp h with rfl | h
    · exact x.1
    · exact off1_mem x.2 p h
theorem off3_app {I C D : Addr} {a b : List (Addr × Obj)} (h : Off3 I C D b) (k : ∀ p ∈ a, p.1 ≠ I ∧ p.1 ≠ C ∧ p.1 ≠ D) : Off3 I C D (a ++ b) := Off3.of fun p hp => by
  rcases List.mem_append.mp hp with hp | hp
  · exact k p hp
  · exact h.mem p hp
theorem off3_cons {I C D : Addr} {x : Addr × Obj} {a b : List (Addr × Obj)} (h : Off3 I C D (x :: b)) (k : ∀ p ∈ a, p.1 ≠ I ∧ p.1 ≠ C ∧ p.1 ≠ D) : Off3 I C D (x :: (a ++ b)) := ⟨h.1, off3_app h.2 k⟩
noncomputable def IntR (v : Value) (n : Int) : Prop := ∃ t, v = .int n t
theorem ints_of {ys : List Value} {l : List Int} (h : ListR IntR ys l) : IntsAre ys l := by
  induction ys generalizing l with
  | nil => cases l with
    | nil => exact .nil
    | cons a l => exact h.elim
  | cons y ys ih => cases l with
    | nil => exact h.elim
    | cons a l =>
      obtain ⟨h1, h2⟩ := h
      obtain ⟨t, rfl⟩ : ∃ t, y = .int a t := h1
      exact .cons a t (ih h2)
inductive PairR (led : List (Addr × Obj)) (v : Value) (ab : Int × Int) : Prop
  | mk (a : Addr) (t1 t2 : Tok) (e : v = .ref a) (m1 : (a, tupO [.int ab.1 t1, .int ab.2 t2]) ∈ led)
theorem PairR.imp {led led' : List (Addr × Obj)} {v : Value} {p : Int × Int} (hs : ∀ z ∈ led, z ∈ led') (h : PairR led v p) : PairR led' v p :=
  let ⟨a, t1, t2, e, hm⟩ := h; ⟨a, t1, t2, e, hs _ hm⟩
/-- what stands after i sections; in between, after j turns of the section i -/
inductive LeastJ (k : Nat) (wi hi : Int) (rotb : Bool) (qs : List Q4) (bl : List (Addr × Obj)) (i : Nat) (ys : List Value) (nw : List (Addr × Obj)) : Prop
  | mk (own : List (Addr × Obj)) (hys : ListR IntR ys ((qs.take i).flatMap (valsOf k rotb wi hi))) (e : nw = own ++ bl) (ho : Own bl own)
inductive LeastT (k : Nat) (wi hi : Int) (rotb : Bool) (qs : List Q4) (bl : List (Addr × Obj)) (i : Nat) (ax : Addr) (its : List Value) (j : Nat) (ys : List Value) (nw : List (Addr × Obj)) : Prop
  | mk (q : Q4) (own : List (Addr × Obj)) (n : Nat) (hq : qs[i]? = some q) (hp : ListR (PairR nw) its (pairsOf rotb wi hi)) (ha : (ax, listOf its.toArray n) ∈ nw)
    (hys : ListR IntR ys ((qs.take i).flatMap (valsOf k rotb wi hi) ++ ((pairsOf rotb wi hi).take j).filterMap fun ab => fitV k q.2.2.1 q.2.2.2 ab.1 ab.2)) (e : nw = own ++ bl) (ho : Own bl own)
theorem pairs_le {rotb : Bool} {wi hi : Int} {j : Nat} {f : Int × Int → Option Int} : (((pairsOf rotb wi hi).take j).filterMap f).length ≤ 2 :=
  Nat.le_trans (List.length_filterMap_le _ _) (Nat.le_trans (List.length_take_le' _ _) (by unfold pairsOf; split <;> exact Nat.le_of_ble_eq_true rfl))
theorem LeastT.lens {k : Nat} {wi hi : Int} {rotb : Bool} {qs : List Q4} {bl : List (Addr × Obj)} {i : Nat} {ax : Addr} {its : List Value} {j : Nat} {ys : List Value} {nw : List (Addr × Obj)} (h : LeastT k wi hi rotb qs bl i ax its j ys nw) (hsz : qs.length ≤ 900) : ys.length ≤ 1802 := by
  obtain ⟨q, own, n, hqi, hpr, hal, hys, hnw, hown⟩ := h
  rw [hys.length, List.length_append]
  have l1 := vals_len (k := k) (rotb := rotb) (wi := wi) (hi := hi) (qs.take i)
  have l2 := pairs_le (rotb := rotb) (wi := wi) (hi := hi) (j := j) (f := fun ab => fitV k q.2.2.1 q.2.2.2 ab.1 ab.2)
  have l3 := List.length_take_le' i qs
  omega
theorem LeastT.has {k : Nat} {wi hi : Int} {rotb : Bool} {qs : List Q4} {bl : List (Addr × Obj)} {i : Nat} {ax : Addr} {its : List Value} {j : Nat} {ys : List Value} {nw : List (Addr × Obj)} (h : LeastT k wi hi rotb qs bl i ax its j ys nw) :
    (∃ n, (ax, listOf its.toArray n) ∈ nw) ∧ ∀ v, its[j]? = some v → ∃ t a b, v = .ref t ∧ (t, tupO [a, b]) ∈ nw := by
  obtain ⟨q, own, n, hqi, hpr, hal, hys, hnw, hown⟩ := h
  refine ⟨⟨n, hal⟩, fun v hv => ?_⟩
  obtain ⟨ab, _, a, t1, t2, rfl, hm⟩ := hpr.has hv
  exact ⟨a, _, _, rfl, hm⟩
theorem LeastT.next {k : Nat} {wi hi : Int} {rotb : Bool} {qs : List Q4} {bl : List (Addr × Obj)} {i : Nat} {ax : Addr} {its : List Value} {ys : List Value} {nw : List (Addr × Obj)} (h : LeastT k wi hi rotb qs bl i ax its its.length ys nw) : LeastJ k wi hi rotb qs bl (i + 1) ys nw := by
  obtain ⟨q, own, n, hqi, hpr, hal, hys, hnw, hown⟩ := h
  rw [hpr.length, List.take_length] at hys
  refine ⟨own, ?_, hnw, hown⟩
  rw [List.take_add_one, hqi, List.flatMap_append]
  show ListR IntR ys (_ ++ (valsOf k rotb wi hi q ++ []))
  rw [List.append_nil]
  exact hys
theorem lt_start {ys : List Value} {l : List Int} {ps : List (Int × Int)} {f : Int × Int → Option Int} (h : ListR IntR ys l) : ListR IntR ys (l ++ (ps.take 0).filterMap f) := by
  rw [List.take_zero, List.filterMap_nil, List.append_nil]; exact h
theorem lt_some {ys : List Value} {l : List Int} {ps : List (Int × Int)} {j : Nat} {ab : Int × Int} {v : Int} {t : Tok} {f : Int × Int → Option Int} (hab : ps[j]? = some ab) (hv : f ab = some v) (h : ListR IntR ys (l ++ (ps.take j).filterMap f)) :
    ListR IntR (ys ++ [.int v t]) (l ++ (ps.take (j + 1)).filterMap f) := by
  rw [List.take_add_one, hab, List.filterMap_append, ← List.append_assoc]
  refine h.append ?_
  show ListR IntR [.int v t] (List.filterMap _ [ab])
  rw [fm_some hv]
  exact ⟨⟨t, rfl⟩, trivial⟩
theorem lt_none {ys : List Value} {l : List Int} {ps : List (Int × Int)} {j : Nat} {ab : Int × Int} {f : Int × Int → Option Int} (hab : ps[j]? = some ab) (hv : f ab = none) (h : ListR IntR ys (l ++ (ps.take j).filterMap f)) :
    ListR IntR ys (l ++ (ps.take (j + 1)).filterMap f) := by
  rw [List.take_add_one, hab, List.filterMap_append, ← List.append_assoc]
  show ListR IntR ys (_ ++ List.filterMap _ [ab])
  rw [fm_none hv, List.append_nil]
  exact h
theorem two_of {a b c d : Value} (h : tupO [a, b] = tupO [c, d]) : a = c ∧ b = d := by
  have := congrArg (fun o : Obj => match o.data with | .seq xs _ => xs.toList | _ => []) h
  injection this with h1 h2
  injection h2 with h2
  exact ⟨h1, h2⟩
section
variable {w : World} {dp un : Nat} {gd : Option (List Code)} {env : Env} {outer : List Env} {A₀ : Around} {base h₀ : Heap} {L : Addr} {m : Str → Option Value} {p : Program} {loose : List Str} {mean : ExcName → Option Value} {mg mb : Str → Option Value} {news : List (Addr × Obj)} {s : Shared} {Q E : Value → Shared → Prop}
theorem law_least {k : Nat} {wi hi : Int} {rotb : Bool} {t0 t5 t6 : Tok} {fr : Addr} {vs : List Value} {nf : Nat} {qs : List Q4} (Cc : Cx 8 w dp un env outer A₀ base h₀ L m p loose mean mg mb s.heap) (N : News h₀ L s.heap news)
    (hfr : (fr, listOf vs.toArray nf) ∈ news) (hq : ListR (TupAt4 news) vs qs) (hqs : ∀ q ∈ qs, 0 ≤ q.2.2.1 ∧ q.2.2.1 < bigI ∧ 0 ≤ q.2.2.2 ∧ q.2.2.2 < bigI) (hw : 0 < wi) (hh : 0 < hi) (hk3 : k < 3) (hsz : qs.length ≤ 900)
    (ret : ∀ v own h' tk', LeastV (qs.flatMap (valsOf k rotb wi hi)) v → Fr h₀ L h' m → News h₀ L h' (own ++ news) → Own news own → Q v { s with heap := h', toks := tk' }) :
    wpAny (model PW w) (AR dp un gd env outer) (call (.ref 818) [.int k t0, .ref fr, .int wi t5, .int hi t6, .bool rotb]) Q E s := by
  obtain ⟨B, F, X, T, hf, hk, hdp, hun⟩ := Cc
  refine wpAny_call ?_
  k_dflt k_enter
  k_steps
  rename_i g₁ L₁ h₁ tk₁ FG₁ F₁ B₁ X₁ T₁ lL oc4 oc3 oc2 oc1 dc4 dc3 dc2 dc1 N₁
  have dc1' : oc1.data = .cell (some (.int k t0)) := dc1
  have dc2' : oc2.data = .cell (some (.int wi t5)) := dc2
  have dc3' : oc3.data = .cell (some (.int hi t6)) := dc3
  have dc4' : oc4.data = .cell (some (.bool rotb)) := dc4
  obtain ⟨m2, e1, F₂⟩ : ∃ m2, m2 (Str.ofString "free") = some (.ref fr) ∧ Fr g₁ L₁ h₁ m2 := ⟨_, rfl, F₁⟩
  clear F₁ dc1 dc2 dc3 dc4
  obtain ⟨bl, hbl, m1', m2', m3', m4', hnb⟩ : ∃ bl, News g₁ L₁ h₁ bl ∧ (L₁ + 1, oc1) ∈ bl ∧ (L₁ + 1 + 1, oc2) ∈ bl ∧ (L₁ + 1 + 1 + 1, oc3) ∈ bl ∧ (L₁ + 1 + 1 + 1 + 1, oc4) ∈ bl ∧ ∀ q ∈ news, q ∈ bl :=
    ⟨_, N₁, by k_mem, by k_mem, by k_mem, by k_mem, fun q hq => .tail _ (.tail _ (.tail _ (.tail _ hq)))⟩
  refine Hold.mk (assign_comp2 (cl := [(Str.ofString "w", L₁ + 1 + 1), (Str.ofString "rot", L₁ + 1 + 1 + 1 + 1), (Str.ofString "h", L₁ + 1 + 1 + 1), (Str.ofString "choice", L₁ + 1)]) (ax₀ := fr) (its₀ := vs)
    (LeastJ k wi hi rotb qs bl) (LeastT k wi hi rotb qs bl)
    rfl (by with_unfolding_all rfl) (by with_unfolding_all rfl) (by decide) rfl (by decide) rfl rfl rfl rfl rfl rfl (by decide) (by decide) (by decide)
    (fun _ => by with_unfolding_all rfl) (fun _ _ => by with_unfolding_all rfl) ?_ F₂ hbl (hnb _ hfr) ?_ ?_ ?_ ?_ ?_ ?_ ?_)
  · exact wpAny_Name (wpAny_loadName_local rfl rfl F₂.ns e1 ⟨rfl, rfl⟩) (by decide)
  · exact fun i ys nw h => ⟨nf, by obtain ⟨own, _, e, _⟩ := h; rw [e]; exact List.mem_append_right _ (hnb _ hfr)⟩
  · exact fun i ax its j ys nw h => ⟨Nat.le_trans (h.lens hsz) (Nat.le_of_ble_eq_true rfl), h.has⟩
  · intro I C D i v ys nw oI oC mm h tk E' hv hJ hns hmx Fz Nz off
    obtain ⟨own, hys, hnw, hown⟩ := hJ
    have c1 : (L₁ + 1, oc1) ∈ nw := hnw ▸ List.mem_append_right own m1'
    have c2 : (L₁ + 1 + 1, oc2) ∈ nw := hnw ▸ List.mem_append_right own m2'
    have c3 : (L₁ + 1 + 1 + 1, oc3) ∈ nw := hnw ▸ List.mem_append_right own m3'
    have c4 : (L₁ + 1 + 1 + 1 + 1, oc4) ∈ nw := hnw ▸ List.mem_append_right own m4'
    refine wpAny_mono (Q := fun xv s' => Hold _) ?_ (fun _ _ x => x.get) fun _ _ x => x
    obtain ⟨q, hqi, hqv⟩ := hq.has hv
    k_steps
    all_goals
      rename Fr _ _ _ _ => Fy
      rename News _ _ _ _ => Ny
    · rename_i hrot D1 hx1 la D2 hx2 lb lz hx3 lc
      refine Hold.mk ⟨lz, [.ref D1, .ref D2], _, _, (lz, listOf #[.ref D1, .ref D2] 0) :: (D2, tupO [.int hi t6, .int wi t5]) :: (D1, tupO [.int wi t5, .int hi t6]) :: nw, rfl, rfl, Fy, cb_drop Ny (perm_of [[_], [_], [_], [_], [_], [_]] [3, 4, 5, 0, 1, 2] nw), ?_, .mk q ((lz, listOf #[.ref D1, .ref D2] 0) :: (D2, tupO [.int hi t6, .int wi t5]) :: (D1, tupO [.int wi t5, .int hi t6]) :: own) 0 hqi ?_ (.head _) (lt_start hys) (by rw [hnw]; rfl) ?_⟩
      · exact ⟨⟨Nat.ne_of_gt lc.2.2.1, Nat.ne_of_gt lc.2.2.2.1, Nat.ne_of_gt lc.2.2.2.2.1⟩, ⟨Nat.ne_of_gt lb.2.1, Nat.ne_of_gt lb.2.2.1, Nat.ne_of_gt lb.2.2.2.1⟩, ⟨Nat.ne_of_gt la.1, Nat.ne_of_gt la.2.1, Nat.ne_of_gt la.2.2.1⟩, off⟩
      · rw [pairsOf, if_pos hrot]
        exact ⟨⟨D1, _, _, rfl, .tail _ (.tail _ (.head _))⟩, ⟨D2, _, _, rfl, .tail _ (.head _)⟩, trivial⟩
      · exact own_cons (fun r hr => Nat.ne_of_lt (allLt_all lc.2.2.2.2.2 r (hnw ▸ List.mem_append_right own hr))) (own_cons (fun r hr => Nat.ne_of_lt (allLt_all lb.2.2.2.2 r (hnw ▸ List.mem_append_right own hr))) (own_cons (fun r hr => Nat.ne_of_lt (allLt_all la.2.2.2 r (hnw ▸ List.mem_append_right own hr))) hown))
    · rename_i hrot D1 hx1 la lz hx3 lc
      refine Hold.mk ⟨lz, [.ref D1], _, _, (lz, listOf #[.ref D1] 0) :: (D1, tupO [.int wi t5, .int hi t6]) :: nw, rfl, rfl, Fy, cb_drop Ny (perm_of [[_], [_], [_], [_], [_]] [2, 3, 4, 0, 1] nw), ?_, .mk q ((lz, listOf #[.ref D1] 0) :: (D1, tupO [.int wi t5, .int hi t6]) :: own) 0 hqi ?_ (.head _) (lt_start hys) (by rw [hnw]; rfl) ?_⟩
      · exact ⟨⟨Nat.ne_of_gt lc.2.1, Nat.ne_of_gt lc.2.2.1, Nat.ne_of_gt lc.2.2.2.1⟩, ⟨Nat.ne_of_gt la.1, Nat.ne_of_gt la.2.1, Nat.ne_of_gt la.2.2.1⟩, off⟩
      · rw [pairsOf, hrot, if_neg Bool.false_ne_true]
        exact ⟨⟨D1, _, _, rfl, .tail _ (.head _)⟩, trivial⟩
      · exact own_cons (fun r hr => Nat.ne_of_lt (allLt_all lc.2.2.2.2 r (hnw ▸ List.mem_append_right own hr))) (own_cons (fun r hr => Nat.ne_of_lt (allLt_all la.2.2.2 r (hnw ▸ List.mem_append_right own hr))) hown)
  · intro I C D i xv ax its j t a b ys nw I2 oI2 oI oC mm h tk E' hv hj hmt hJ1 hns hmx hma hmb Fz Nz off o1
    obtain ⟨q, own, na, hqi, hpr, hal, hys, hnw, hown⟩ := hJ1
    obtain ⟨q', hqi', hqv⟩ := hq.has hv
    obtain rfl : q = q' := Option.some.inj (hqi.symm.trans hqi')
    obtain ⟨ca, s1, s2, s3, s4, rfl, hcm⟩ := hqv
    obtain ⟨ab, hab, pt, u1, u2, hpe, hpm⟩ := hpr.has hj
    cases hpe
    obtain ⟨rfl, rfl⟩ := two_of (Option.some.inj ((Nz _ (.tail _ (.tail _ (.tail _ (.tail _ hmt))))).1.symm.trans (Nz _ (.tail _ (.tail _ (.tail _ (.tail _ hpm))))).1))
    have hcm' : (ca, tupO [.int q.1 s1, .int q.2.1 s2, .int q.2.2.1 s3, .int q.2.2.2 s4]) ∈ nw := hnw ▸ List.mem_append_right own (hnb _ hcm)
    have c1 : (L₁ + 1, oc1) ∈ nw := hnw ▸ List.mem_append_right own m1'
    have hb1 := hqs q (List.mem_of_getElem? hqi)
    have hab0 : 0 ≤ ab.1 ∧ 0 ≤ ab.2 := pairs_pos hw hh (List.mem_of_getElem? hab)
    refine wpAny_mono (Q := fun ok s' => Hold _) ?_ (fun _ _ x => x.get) fun _ _ x => x
    k_steps
    · rename_i hle1 hle2
      rename Fr _ _ _ _ => Fy
      rename News _ _ _ _ => Ny
      refine Hold.mk ?_
      rw [if_pos rfl]
      k_steps
      refine Hold.mk (law_value (Cc := by ktr_rel) (N := by k_asm) (hc := by k_mem) hb1.1 hb1.2.1 hb1.2.2.1 hb1.2.2.2 hab0.1 hle1 hab0.2 hle2 hk3 ?_)
      intro v t own' h' tk' hv' F' N' hO
      have sub : ∀ z ∈ nw, z ∈ own' ++ nw := fun z hz => List.mem_append_right _ hz
      refine ⟨h', tk', (I, oI) :: (own' ++ nw), rfl, F', cb_drop N' (perm_of [own', [_], [_], [_], [_]] [1, 2, 3, 4, 0] nw), ?_, trivial, own' ++ nw, rfl, ?_, .mk q (own' ++ own) na hqi (hpr.imp fun v p hp => PairR.imp sub hp) (sub _ hal) (lt_some hab hv' hys) (by rw [hnw, List.append_assoc]) ?_⟩
      · exact off3_cons off (fun z hz => ⟨fun e => hO z hz (I2, oI2) (.head _) e.symm, fun e => hO z hz (C, oC) (.tail _ (.head _)) e.symm, fun e => hO z hz (D, lst ys) (.tail _ (.tail _ (.head _))) e.symm⟩)
      · exact off3_app o1 (fun z hz => ⟨fun e => hO z hz (I, oI) (.tail _ (.tail _ (.tail _ (.head _)))) e.symm, fun e => hO z hz (C, oC) (.tail _ (.head _)) e.symm, fun e => hO z hz (D, lst ys) (.tail _ (.tail _ (.head _))) e.symm⟩)
      · exact own_app (fun z hz r hr => hO z hz r (.tail _ (.tail _ (.tail _ (.tail _ (hnw ▸ List.mem_append_right own hr)))))) hown
    all_goals
      rename ¬ _ => hle
      rename Fr _ _ _ _ => Fy
      rename News _ _ _ _ => Ny
      refine Hold.mk ?_
      rw [if_neg Bool.false_ne_true]
      exact ⟨_, _, (I, oI) :: nw, rfl, Fy, Ny, off, trivial, nw, rfl, o1, .mk q own na hqi hpr hal (lt_none hab (fitV_out fun z => by first | exact hle z.1 | exact hle z.2) hys) hnw hown⟩
  · exact fun i ax its ys nw h => h.next
  · exact ⟨[], trivial, rfl, own_nil⟩
  · rintro D ys nw h tk ⟨own, hys, hnw, hown⟩ Fz Nz off
    rw [hq.length, List.take_length] at hys
    have hints := ints_of hys
    obtain ⟨m3, e2, F3⟩ : ∃ m3, m3 (Str.ofString "values") = some (.ref D) ∧ Fr g₁ L₁ h m3 := ⟨_, if_pos rfl, Fz⟩
    clear Fz
    have hl := hys.length
    have hoff : ∀ p ∈ nw, @Ne Nat p.1 D := off1_mem off
    have hnw' : ∀ z ∈ own ++ news, z ∈ nw := fun z hz => hnw ▸ (List.mem_append.mp hz).elim (List.mem_append_left _) fun h => List.mem_append_right own (hnb z h)
    have hownN : Own news own := hown.sub hnb
    k_steps
    · rename _ ∧ AllLt _ _ => l1
      rename decide _ = true => hz
      rename Fr h₀ _ _ _ => Fy
      rename News h₀ _ _ _ => Ny
      rename Addr => l'
      refine ret _ ((l', W.listOf #[] 0) :: (D, lst ys) :: own) _ _ (.inl ⟨of_decide_eq_true hz, rfl⟩) Fy (cb_drop Ny fun z hz => ?_) (own_cons (fun r hr => Nat.ne_of_lt (allLt_all l1.2 r (hnw' _ (List.mem_append_right _ hr)))) (own_cons (fun r hr => hoff r (hnw' _ (List.mem_append_right _ hr))) hownN))
      rcases List.mem_cons.mp hz with rfl | hz
      · exact .head _
      rcases List.mem_cons.mp hz with rfl | hz
      · exact .tail _ (.head _)
      · exact .tail _ (.tail _ (hnw' z hz))
    · rename _ ∧ AllLt _ _ => l1
      rename decide _ = false => hz
      rename Fr g₁ _ _ _ => Fy
      rename News g₁ _ _ _ => Ny
      rename Addr => l'
      refine kso_min Fy Ny ⟨_, (Ny _ (.tail _ (.head _))).1, rfl, _, rfl⟩ hints (List.length_pos_iff.mpr (of_decide_eq_false hz)) rfl fun h' M t tk' F' N' hM hle => ?_
      k_steps
      rename Fr h₀ _ _ _ => Fy
      rename News h₀ _ _ _ => Ny
      refine ret _ ((l', W.listOf #[] 0) :: (D, lst ys) :: own) _ _ (.inr ⟨M, t, rfl, hM, hle⟩) Fy (cb_drop Ny fun z hz => ?_) (own_cons (fun r hr => Nat.ne_of_lt (allLt_all l1.2 r (hnw' _ (List.mem_append_right _ hr)))) (own_cons (fun r hr => hoff r (hnw' _ (List.mem_append_right _ hr))) hownN))
      rcases List.mem_cons.mp hz with rfl | hz
      · exact .head _
      rcases List.mem_cons.mp hz with rfl | hz
      · exact .tail _ (.head _)
      · exact .tail _ (.tail _ (hnw' z hz))
end
end Mine
namespace Mine
theorem LeastV.of_nil {v : Value} (h : LeastV [] v) : v = .none := by
  rcases h with ⟨_, h⟩ | ⟨n, t, _, h, _⟩
  · exact h
  · cases h
theorem LeastV.of_least {l : List Int} {v : Value} {n : Int} (h : LeastV l v) (h1 : n ∈ l) (h2 : ∀ x ∈ l, n ≤ x) : ∃ t, v = .int n t := by
  rcases h with ⟨rfl, _⟩ | ⟨n', t, rfl, h3, h4⟩
  · cases h1
  · have := h4 _ h1
    have := h2 _ h3
    have e : n' = n := by omega
    exact ⟨t, by rw [e]⟩
theorem mem_valsOf {k : Nat} {rotb : Bool} {wi hi x : Int} {q : Q4} : x ∈ valsOf k rotb wi hi q ↔ fitV k q.2.2.1 q.2.2.2 wi hi = some x ∨ (rotb = true ∧ fitV k q.2.2.1 q.2.2.2 hi wi = some x) := by
  unfold valsOf pairsOf
  cases rotb <;> simp [List.mem_filterMap]
theorem least_some {k : Nat} {rotb : Bool} {wi hi n : Int} {qs : List Q4} {j : Nat} {fl : Bool} (S : SelOk k qs wi hi rotb j n fl) : n ∈ qs.flatMap (valsOf k rotb wi hi) ∧ ∀ x ∈ qs.flatMap (valsOf k rotb wi hi), n ≤ x := by
  obtain ⟨q, hq, hf⟩ := S.fits
  constructor
  · refine List.mem_flatMap.mpr ⟨q, List.mem_of_getElem? hq, mem_valsOf.mpr ?_⟩
    cases fl with
    | true => exact .inr ⟨S.turn rfl, hf⟩
    | false => exact .inl hf
  · intro x hx
    obtain ⟨q', hq', hx'⟩ := List.mem_flatMap.mp hx
    rcases mem_valsOf.mp hx' with h | ⟨hr, h⟩
    · exact (S.least q' hq').1 _ h
    · exact (S.least q' hq').2 hr _ h
theorem least_none {k : Nat} {rotb : Bool} {wi hi : Int} {qs : List Q4} (S : SelNone k qs wi hi rotb) : qs.flatMap (valsOf k rotb wi hi) = [] := by
  refine List.eq_nil_iff_forall_not_mem.mpr fun x hx => ?_
  obtain ⟨q', hq', hx'⟩ := List.mem_flatMap.mp hx
  rcases mem_valsOf.mp hx' with h | ⟨hr, h⟩
  · rw [(S q' hq').1] at h; cases h
  · rw [(S q' hq').2 hr] at h; cases h

/-- two sections that do not meet -/
noncomputable def Apart (q r : Q4) : Prop := q.1 + q.2.2.1 ≤ r.1 ∨ r.1 + r.2.2.1 ≤ q.1 ∨ q.2.1 + q.2.2.2 ≤ r.2.1 ∨ r.2.1 + r.2.2.2 ≤ q.2.1
theorem Apart.symm {q r : Q4} (h : Apart q r) : Apart r q := by unfold Apart at *; omega
/-- the free sections of a bin of that size -/
structure Secs (W H : Int) (qs : List Q4) : Prop where
  apart : qs.Pairwise Apart
  size : ∀ q ∈ qs, 0 < q.2.2.1 ∧ q.2.2.1 ≤ W ∧ 0 < q.2.2.2 ∧ q.2.2.2 ≤ H
theorem split_at {α : Type} : ∀ {qs : List α} {j : Nat} {q : α}, qs[j]? = some q → ∃ l1 l2, qs = l1 ++ q :: l2 ∧ qs.eraseIdx j = l1 ++ l2
  | x :: r, 0, q, e => by rw [List.getElem?_cons_zero] at e; cases e; exact ⟨[], r, rfl, rfl⟩
  | x :: r, j + 1, q, e => by
    rw [List.getElem?_cons_succ] at e
    obtain ⟨l1, l2, rfl, h2⟩ := split_at e
    exact ⟨x :: l1, l2, rfl, by rw [List.eraseIdx_cons_succ, h2]; rfl⟩
  | [], j, q, e => by simp at e
theorem Secs.others {W H : Int} {q : Q4} {l1 l2 : List Q4} (S : Secs W H (l1 ++ q :: l2)) : ∀ r ∈ l1 ++ l2, Apart r q := by
  obtain ⟨h1, h2, h3⟩ := List.pairwise_append.mp S.apart
  intro r hr
  rcases List.mem_append.mp hr with hr | hr
  · exact h3 r hr q (.head _)
  · exact ((List.pairwise_cons.mp h2).1 r hr).symm
theorem Secs.ne {W H : Int} {q : Q4} {l1 l2 : List Q4} (S : Secs W H (l1 ++ q :: l2)) : ∀ r ∈ l1 ++ l2, ¬ (r.1 = q.1 ∧ r.2.1 = q.2.1) := by
  rintro r hr ⟨e1, e2⟩
  have h := S.others r hr
  have s1 := S.size q (List.mem_append_right _ (.head _))
  have s2 := S.size r (by
    rcases List.mem_append.mp hr with hr | hr
    · exact List.mem_append_left _ hr
    · exact List.mem_append_right _ (.tail _ hr))
  unfold Apart at h
  omega
theorem Secs.nodup {W H : Int} {qs : List Q4} (S : Secs W H qs) (i j : Nat) (q q' : Q4) (h1 : qs[i]? = some q) (h2 : qs[j]? = some q') (hij : i ≠ j) : q ≠ q' := by
  rintro rfl
  have s := S.size q (List.mem_of_getElem? h1)
  have ha : Apart q q := by
    obtain ⟨hi, e1⟩ := List.getElem?_eq_some_iff.mp h1
    obtain ⟨hj, e2⟩ := List.getElem?_eq_some_iff.mp h2
    rcases Nat.lt_or_gt_of_ne hij with h | h
    · have := List.pairwise_iff_getElem.mp S.apart i j hi hj h
      rwa [e1, e2] at this
    · have := List.pairwise_iff_getElem.mp S.apart j i hj hi h
      rwa [e1, e2] at this
  unfold Apart at ha
  omega
noncomputable def cornerP (q : Q4) (a b : Int) (o : Q4) : Bool := decide (o.1 = q.1) && (decide (o.2.1 = q.2.1) && (decide (a ≤ o.2.2.1) && decide (b ≤ o.2.2.2)))
theorem Secs.corner {W H a b : Int} {q : Q4} {qs : List Q4} {j : Nat} (S : Secs W H qs) (hj : qs[j]? = some q) (ha : a ≤ q.2.2.1) (hb : b ≤ q.2.2.2) : qs.filter (cornerP q a b) = [q] := by
  obtain ⟨l1, l2, rfl, _⟩ := split_at hj
  have hn := S.ne
  have n1 : l1.filter (cornerP q a b) = [] := List.filter_eq_nil_iff.mpr fun r hr => by
    have := hn r (List.mem_append_left _ hr)
    unfold cornerP
    simp only [Bool.and_eq_true, decide_eq_true_eq]
    rintro ⟨h1, h2, _⟩
    exact this ⟨h1, h2⟩
  have n2 : l2.filter (cornerP q a b) = [] := List.filter_eq_nil_iff.mpr fun r hr => by
    have := hn r (List.mem_append_right _ hr)
    unfold cornerP
    simp only [Bool.and_eq_true, decide_eq_true_eq]
    rintro ⟨h1, h2, _⟩
    exact this ⟨h1, h2⟩
  rw [List.filter_append, n1, List.filter_cons_of_pos (by unfold cornerP; simp [ha, hb]), n2]
  rfl
theorem Secs.others_left {W H : Int} {q : Q4} {qs : List Q4} {j : Nat} (S : Secs W H qs) (hj : qs[j]? = some q) : qs.filter (fun o => !decide (o = q)) = qs.eraseIdx j := by
  obtain ⟨l1, l2, rfl, h2⟩ := split_at hj
  have hn := S.ne
  rw [h2, List.filter_append, List.filter_cons_of_neg (by simp)]
  have n1 : l1.filter (fun o => !decide (o = q)) = l1 := List.filter_eq_self.mpr fun r hr => by
    have := hn r (List.mem_append_left _ hr)
    simp only [Bool.not_eq_true', decide_eq_false_iff_not]
    rintro rfl
    exact this ⟨rfl, rfl⟩
  have n2 : l2.filter (fun o => !decide (o = q)) = l2 := List.filter_eq_self.mpr fun r hr => by
    have := hn r (List.mem_append_right _ hr)
    simp only [Bool.not_eq_true', decide_eq_false_iff_not]
    rintro rfl
    exact this ⟨rfl, rfl⟩
  rw [n1, n2]
theorem Secs.cut {W H a b : Int} {q : Q4} {qs : List Q4} {j r : Nat} (S : Secs W H qs) (hj : qs[j]? = some q) (ha0 : 0 < a) (ha : a ≤ q.2.2.1) (hb0 : 0 < b) (hb : b ≤ q.2.2.2) : Secs W H (qs.eraseIdx j ++ lawCut r q.1 q.2.1 q.2.2.1 q.2.2.2 a b) := by
  obtain ⟨l1, l2, rfl, h2⟩ := split_at hj
  have ho := S.others
  have sq := S.size q (List.mem_append_right _ (.head _))
  have hs : ∀ o ∈ l1 ++ l2, 0 < o.2.2.1 ∧ o.2.2.1 ≤ W ∧ 0 < o.2.2.2 ∧ o.2.2.2 ≤ H := fun o ho => S.size o (by
    rcases List.mem_append.mp ho with h | h
    · exact List.mem_append_left _ h
    · exact List.mem_append_right _ (.tail _ h))
  have hp : (l1 ++ l2).Pairwise Apart := by
    obtain ⟨p1, p2, p3⟩ := List.pairwise_append.mp S.apart
    exact List.pairwise_append.mpr ⟨p1, (List.pairwise_cons.mp p2).2, fun x hx y hy => p3 x hx y (.tail _ hy)⟩
  -- a piece lies within the section and has sides
  have hin : ∀ o ∈ lawCut r q.1 q.2.1 q.2.2.1 q.2.2.2 a b, q.1 ≤ o.1 ∧ o.1 + o.2.2.1 ≤ q.1 + q.2.2.1 ∧ q.2.1 ≤ o.2.1 ∧ o.2.1 + o.2.2.2 ≤ q.2.1 + q.2.2.2 ∧ 0 < o.2.2.1 ∧ 0 < o.2.2.2 := fun o hm => by
    unfold lawCut at hm
    obtain ⟨h1, h2⟩ := List.mem_filter.mp hm
    simp only [Bool.and_eq_true, decide_eq_true_eq] at h2
    split at h1
    · rcases List.mem_cons.mp h1 with rfl | h1
      · dsimp only at h2 ⊢; omega
      · rw [List.mem_singleton.mp h1] at h2 ⊢; dsimp only at h2 ⊢; omega
    · rcases List.mem_cons.mp h1 with rfl | h1
      · dsimp only at h2 ⊢; omega
      · rw [List.mem_singleton.mp h1] at h2 ⊢; dsimp only at h2 ⊢; omega
  have hpc : (lawCut r q.1 q.2.1 q.2.2.1 q.2.2.2 a b).Pairwise Apart := by
    unfold lawCut
    refine List.Pairwise.filter _ ?_
    split
    · refine List.pairwise_cons.mpr ⟨fun o hm => ?_, List.pairwise_singleton _ _⟩
      rw [List.mem_singleton.mp hm]
      unfold Apart; dsimp only; omega
    · refine List.pairwise_cons.mpr ⟨fun o hm => ?_, List.pairwise_singleton _ _⟩
      rw [List.mem_singleton.mp hm]
      unfold Apart; dsimp only; omega
  rw [h2]
  refine ⟨List.pairwise_append.mpr ⟨hp, hpc, fun x hx y hy => ?_⟩, fun o hm => ?_⟩
  · have z := ho x hx
    have z2 := hin y hy
    unfold Apart at z ⊢
    omega
  · rcases List.mem_append.mp hm with h | h
    · exact hs o h
    · have := hin o h
      omega
theorem flat_same {r : Nat} {W H w h : Int} (hr : r < 6) (w0 : 0 < w) (w1 : w < W) (h0 : 0 < h) (h1 : h < H) : lawFlat r W H w h = true ↔ flatBy r W H w h := by
  have hC : 0 < (W - w) * (H - h) := Int.mul_pos (by omega) (by omega)
  have e1 : W * (H - h) = w * (H - h) + (W - w) * (H - h) := by rw [← Int.add_mul]; congr 1; omega
  have e2 : (W - w) * H = h * (W - w) + (W - w) * (H - h) := by rw [Int.mul_comm h, ← Int.mul_add]; congr 1; omega
  have e3 : (W - w) * h = h * (W - w) := Int.mul_comm _ _
  match r, hr with
  | 0, _ => exact decide_eq_true_iff
  | 1, _ => exact decide_eq_true_iff
  | 2, _ => exact decide_eq_true_iff
  | 3, _ => exact decide_eq_true_iff
  | 4, _ =>
    show decide _ = true ↔ w * (H - h) ≤ h * (W - w)
    rw [decide_eq_true_iff, e1, e2, e3]
    omega
  | 5, _ =>
    show decide _ = true ↔ w * (H - h) ≥ h * (W - w)
    rw [decide_eq_true_iff, e1, e2, e3]
    omega
/-- the law's pieces are the program's -/
theorem lawCut_eq {r : Nat} {x y W H w h : Int} (hr : r < 6) (w0 : 0 < w) (w1 : w ≤ W) (h0 : 0 < h) (h1 : h ≤ H) : lawCut r x y W H w h = cutBy r x y W H w h := by
  have f1 : (0 < H - h) ↔ (h < H) := by omega
  have f2 : (0 < W - w) ↔ (w < W) := by omega
  have hW : 0 < W := by omega
  have hH : 0 < H := by omega
  have eH : ([(x, y + h, W, H - h), (x + w, y, W - w, h)] : List Q4).filter (fun q => decide (0 < q.2.2.1) && decide (0 < q.2.2.2)) = cutH x y W H w h := by
    unfold cutH
    by_cases c1 : h < H <;> by_cases c2 : w < W <;> simp [List.filter_cons, c1, c2, f1, f2, hW, hH, w0, h0]
  have eV : ([(x, y + h, w, H - h), (x + w, y, W - w, H)] : List Q4).filter (fun q => decide (0 < q.2.2.1) && decide (0 < q.2.2.2)) = cutV x y W H w h := by
    unfold cutV
    by_cases c1 : h < H <;> by_cases c2 : w < W <;> simp [List.filter_cons, c1, c2, f1, f2, hW, hH, w0, h0]
  have same : W = w ∨ H = h → cutH x y W H w h = cutV x y W H w h := by
    intro e
    unfold cutH cutV
    rcases e with rfl | rfl
    · simp
    · simp
  unfold lawCut cutBy
  by_cases hf : flatBy r W H w h
  · rw [if_pos hf]
    by_cases hl : lawFlat r W H w h = true
    · rw [if_pos hl]; exact eH
    · rw [if_neg hl, eV]
      by_cases e : W = w ∨ H = h
      · exact (same e).symm
      · exact absurd ((flat_same hr w0 (by omega) h0 (by omega)).mpr hf) hl
  · rw [if_neg hf]
    by_cases hl : lawFlat r W H w h = true
    · rw [if_pos hl, eH]
      by_cases e : W = w ∨ H = h
      · exact same e
      · exact absurd ((flat_same hr w0 (by omega) h0 (by omega)).mp hl) hf
    · rw [if_neg hl]; exact eV
end Mine
namespace Mine
noncomputable def lawDef : Stmt := stAt 35
noncomputable def lawBody : List Stmt := match lawDef with | .FunctionDef _ _ b _ _ _ _ _ _ _ => b | _ => []
noncomputable def lawScope : Scope := match lawDef with | .FunctionDef _ _ _ _ _ _ s _ _ _ => s | _ => default
noncomputable def lawFor : Stmt := lawBody.getD 12 (.Pass ⟨0, 0, 0, 0⟩)
noncomputable def turnBody : List Stmt := match lawFor with | .For _ _ b _ _ => b | _ => []
noncomputable def turnAt (i : Nat) : Stmt := turnBody.getD i (.Pass ⟨0, 0, 0, 0⟩)
noncomputable abbrev LE (L fa : Addr) (cd : Value) : Env := envOfC (Str.ofString "law") lawScope L fa cd
theorem hold_least {M : Model} {A : Around} {E : Value → Shared → Prop} {s : Shared} {Q : Value → Shared → Prop} {vs : List Value} (h : Hold (wpAny M A (call (.ref 818) vs) Q E s)) : wpAny M A (call (.ref 818) vs) Q E s := h.get
local macro_rules | `(tactic| walk_at "call ref") => Mine.sHold "Mine.hold_least"
theorem fmod3 (way : Nat) : (way : Int).fmod 3 = ((way % 3 : Nat) : Int) := by rw [Int.fmod_eq_emod_of_nonneg _ (by decide)]; rfl
theorem fdiv3 (way : Nat) : (way : Int).fdiv 3 = ((way / 3 : Nat) : Int) := by rw [Int.fdiv_eq_ediv_of_nonneg _ (by decide)]; rfl
section
variable {w : World} {dp un : Nat} {gd : Option (List Code)} {env : Env} {outer : List Env} {A₀ : Around} {base h₀ : Heap} {L : Addr} {m : Str → Option Value} {p : Program} {loose : List Str} {mean : ExcName → Option Value} {mg mb : Str → Option Value} {news : List (Addr × Obj)} {s : Shared} {Q E : Value → Shared → Prop}
variable {fa : Addr} {cd : Value}
/-- due = _law_least(way % 3, free, w, h, rot) -/
theorem turn0 {way : Nat} {wi hi : Int} {rotb : Bool} {t0 t5 t6 : Tok} {fr : Addr} {vs : List Value} {nf : Nat} {qs : List Q4} {Q : Flow → Shared → Prop}
    (Cc : Cx 12 w dp un (LE L fa cd) outer A₀ base h₀ L m p loose mean mg mb s.heap) (N : News h₀ L s.heap news)
    (m1 : m (Str.ofString "way") = some (.int way t0)) (m2 : m (Str.ofString "free") = some (.ref fr)) (m3 : m (Str.ofString "w") = some (.int wi t5)) (m4 : m (Str.ofString "h") = some (.int hi t6)) (m5 : m (Str.ofString "rot") = some (.bool rotb))
    (hfr : (fr, listOf vs.toArray nf) ∈ news) (hq : ListR (TupAt4 news) vs qs) (hqs : ∀ q ∈ qs, 0 ≤ q.2.2.1 ∧ q.2.2.1 < bigI ∧ 0 ≤ q.2.2.2 ∧ q.2.2.2 < bigI) (hw : 0 < wi) (hh : 0 < hi) (hsz : qs.length ≤ 900)
    (ret : ∀ v own h' tk', LeastV (qs.flatMap (valsOf (way % 3) rotb wi hi)) v → Fr h₀ L h' (fun y => if y = Str.ofString "due" then some v else m y) → News h₀ L h' (own ++ news) → Own news own → Q .next { s with heap := h', toks := tk' }) :
    wpAny (model PW w) (AR dp un gd (LE L fa cd) outer) (exec (turnAt 0) (LE L fa cd)) Q E s := by
  obtain ⟨B, F, X, T, -, -, hdp, hun⟩ := Cc
  have e1 : (turnAt 0) = (turnAt 0) := rfl
  (conv at e1 => rhs; whnf)
  rw [e1]
  clear e1
  unfold LE at *
  have e2 : lawScope = lawScope := rfl
  (conv at e2 => rhs; whnf)
  rw [e2]
  clear e2
  k_steps
  refine Hold.mk ?_
  rw [fmod3]
  refine law_least (k := way % 3) (dp := dp) (un := un) (by ktr_rel) N hfr hq hqs hw hh (Nat.mod_lt _ (by decide)) hsz fun v own h' tk' hL F' N' hO => ?_
  k_steps
  exact ret v own _ _ hL (by k_asm) (by k_asm) hO
end
end Mine
namespace Mine
theorem hold_fit {M : Model} {A : Around} {E : Value → Shared → Prop} {s : Shared} {Q : Value → Shared → Prop} {vs : List Value} (h : Hold (wpAny M A (call (.ref 380) vs) Q E s)) : wpAny M A (call (.ref 380) vs) Q E s := h.get
local macro_rules | `(tactic| walk_at "mine.dummy") => `(tactic| skip)
local macro_rules | `(tactic| walk_at "call ref") => Mine.sRef "Mine.hold_least Mine.hold_fit"
theorem newNeX {ls : Addr} {ol : Obj} {x : Addr × Obj} {own news : List (Addr × Obj)} (hO : ∀ q ∈ own, ∀ r ∈ (ls, ol) :: x :: news, @LT.lt Nat _ r.1 q.1) (hn : ∀ p ∈ news, p.1 ≠ ls) : ∀ p ∈ own ++ news, p.1 ≠ ls := fun p hp =>
  (List.mem_append.mp hp).elim (fun h => Nat.ne_of_gt (hO p h _ (.head _))) (hn p)
theorem newNeX2 {P : Addr} {ol : Obj} {x : Addr × Obj} {own news : List (Addr × Obj)} (hO : ∀ q ∈ own, ∀ r ∈ x :: (P, ol) :: news, @LT.lt Nat _ r.1 q.1) (hn : ∀ p ∈ news, p.1 ≠ P) : ∀ p ∈ own ++ news, p.1 ≠ P := fun p hp =>
  (List.mem_append.mp hp).elim (fun h => Nat.ne_of_gt (hO p h _ (.tail _ (.head _)))) (hn p)
theorem led4 {α : Type} {l t : α} {o3 o2 o1 nw : List α} : ∀ q ∈ l :: t :: ((o3 ++ (o2 ++ o1)) ++ nw), q ∈ o3 ++ (l :: t :: (o2 ++ (o1 ++ nw))) := by
  intro q hq; simp only [List.mem_cons, List.mem_append] at hq ⊢; grind
theorem led4T {α : Type} {o3 o2 o1 nw : List α} : ∀ q ∈ o2 ++ (o1 ++ nw), q ∈ (o3 ++ (o2 ++ o1)) ++ nw := by
  intro q hq; simp only [List.mem_append] at hq ⊢; grind
theorem own_ltX {l : Addr × Obj} {P : Addr} {o o' : Obj} {own own1 news : List (Addr × Obj)} (h : ∀ q ∈ own, ∀ r ∈ l :: (P, o') :: (own1 ++ news), @LT.lt Nat _ r.1 q.1) : Own (l :: (P, o) :: news) own := fun q hq r hr => by
  rcases List.mem_cons.mp hr with rfl | hr
  · exact Nat.ne_of_lt (h q hq _ (.head _))
  rcases List.mem_cons.mp hr with rfl | hr
  · exact Nat.ne_of_lt (h q hq (P, o') (.tail _ (.head _)))
  · exact Nat.ne_of_lt (h q hq r (.tail _ (.tail _ (List.mem_append_right _ hr))))
theorem own_neX {l : Addr × Obj} {P : Addr} {o o' : Obj} {own own1 own2 news : List (Addr × Obj)} (h : Own (l :: (P, o') :: (own2 ++ (own1 ++ news))) own) : Own (l :: (P, o) :: news) own := fun q hq r hr => by
  rcases List.mem_cons.mp hr with rfl | hr
  · exact h q hq _ (.head _)
  rcases List.mem_cons.mp hr with rfl | hr
  · exact h q hq (P, o') (.tail _ (.head _))
  · exact h q hq r (.tail _ (.tail _ (List.mem_append_right _ (List.mem_append_right _ hr))))
section
variable {w : World} {dp un : Nat} {gd : Option (List Code)} {env : Env} {outer : List Env} {A₀ : Around} {base h₀ : Heap} {L : Addr} {m : Str → Option Value} {p : Program} {loose : List Str} {mean : ExcName → Option Value} {mg mb : Str → Option Value} {news : List (Addr × Obj)} {s : Shared} {Q E : Value → Shared → Prop}
variable {fa : Addr} {cd : Value}
/-- fitness is asked ahead of every second one -/
theorem turn1 {C b db ls lr sf : Addr} {Wb Hb : Value} {rotb : Bool} {hb kb : _} {way rid : Nat} {wi hi : Int} {t0 t4 t5 t6 : Tok} {secs : List Value} {qs : List Q4} {ns : Nat} {ps : Array Value} {fr : Addr} {vs : List Value} {nf : Nat} {due : Value} {Q : Flow → Shared → Prop}
    (hC : C ∈ BX) (hk : choiceOf C = way % 3) (Cc : Cx 20 w dp un (LE L fa cd) [] A₀ base h₀ L m p loose mean mg mb s.heap) (CH : CodeHd base 364 360) (XB : (Mine.K w.params).In base) (TB : Top p loose mean mg mb base)
    (N : News h₀ L s.heap ((ls, listOf secs.toArray ns) :: (360, tabObj ps) :: news)) (hsz : secs.length ≤ 900) (hn : ∀ p ∈ news, p.1 ≠ ls) (hn2 : ∀ p ∈ news, p.1 ≠ 360) (hne : ls ≠ 360) (hT : TabOk ps news)
    (h1 : (b, instObj C db) ∈ news) (h2 : (db, dictOf (boxDict Wb Hb (.bool rotb) lr sf ls hb kb) 8) ∈ news) (hq : SecsIn news secs qs)
    (hqs : ∀ q ∈ qs, 0 ≤ q.2.2.1 ∧ q.2.2.1 < bigI ∧ 0 ≤ q.2.2.2 ∧ q.2.2.2 < bigI) (hw : 0 < wi) (hh : 0 < hi) (hab : AllBare s.gens)
    (m0 : m (Str.ofString "rid") = some (.int rid t4)) (m1 : m (Str.ofString "way") = some (.int way t0)) (m2 : m (Str.ofString "free") = some (.ref fr)) (m3 : m (Str.ofString "w") = some (.int wi t5)) (m4 : m (Str.ofString "h") = some (.int hi t6)) (m5 : m (Str.ofString "rot") = some (.bool rotb))
    (m6 : m (Str.ofString "due") = some due) (m7 : m (Str.ofString "box") = some (.ref b))
    (hfr : (fr, listOf vs.toArray nf) ∈ news) (hfq : ListR (TupAt4 news) vs qs) (hqz : qs.length ≤ 900) (hdue : LeastV (qs.flatMap (valsOf (way % 3) rotb wi hi)) due)
    (ret : ∀ h' tk' gs' d' ps' own, AllBare gs' → Fr h₀ L h' m → News h₀ L h' ((ls, listOf secs.toArray ns) :: (360, tabObj ps') :: (own ++ news)) → Own ((ls, listOf secs.toArray ns) :: (360, tabObj ps) :: news) own → TabOk ps' (own ++ news) → Q .next { s with heap := h', gens := gs', drawn := d', toks := tk' }) :
    wpAny (model PW w) (AR dp un gd (LE L fa cd) []) (exec (turnAt 1) (LE L fa cd)) Q E s := by
  obtain ⟨B, F, X, T, -, -, hdp, hun⟩ := Cc
  have e1 : (turnAt 1) = (turnAt 1) := rfl
  (conv at e1 => rhs; whnf)
  rw [e1]
  clear e1
  unfold LE at *
  have e2 : lawScope = lawScope := rfl
  (conv at e2 => rhs; whnf)
  rw [e2]
  clear e2
  k_steps
  · refine Hold.mk ?_
    refine fitness_any hC (by ktr_rel) CH XB TB N hsz hn hn2 hne hT h1 h2 hq hqs hw hh hab ?_ ?_
    · intro j n fl t h' tk' gs' d' ps' own hS hab' F' N' hO hT'
      rw [hk] at hS
      obtain ⟨t', rfl⟩ := hdue.of_least (least_some hS).1 (least_some hS).2
      clear F N hab
      have w1 := List.mem_append_right own h1
      have w2 := List.mem_append_right own h2
      k_steps
      (try (rename @Ne Int _ _ => h9; exact absurd rfl h9))
      refine Hold.mk ?_
      refine fitness_any hC (by ktr_rel) CH XB TB N' hsz (newNeX hO hn) (newNeX2 hO hn2) hne hT' w1 w2 (hq.mono fun _ => List.mem_append_right own) hqs (by decide) (by decide) hab' ?_ ?_
      · intro j2 n2 fl2 t2 h2' tk2' gs2' d2' ps2' own2 hS2 hab2' F2' N2' hO2 hT2'
        rw [hk] at hS2
        clear F' N' hab'
        k_steps
        refine Hold.mk ?_
        rw [fmod3]
        refine law_least (k := way % 3) (by ktr_rel) N2' (.tail _ (.tail _ (List.mem_append_right own2 (List.mem_append_right own hfr)))) (hfq.imp fun _ _ x => x.imp fun p hp => .tail _ (.tail _ (List.mem_append_right own2 (List.mem_append_right own hp)))) hqs (by decide) (by decide) (Nat.mod_lt _ (by decide)) hqz fun v3 own3 h3' tk3' hL3 F3' N3' hO3 => ?_
        obtain ⟨t3, rfl⟩ := hL3.of_least (least_some hS2).1 (least_some hS2).2
        clear F2' N2'
        k_steps
        (try (rename @Ne Int _ _ => h9; exact absurd rfl h9))
        exact ret _ _ _ _ ps2' (own3 ++ (own2 ++ own)) hab2' (by k_asm) (cb_drop N3' led4) (own_app (own_neX hO3) (own_app (own_ltX hO2) (own_ltX (own1 := []) hO))) (hT2'.mono led4T)
      · intro h2' tk2' gs2' d2' ps2' own2 hS2 hab2' F2' N2' hO2 hT2'
        rw [hk] at hS2
        clear F' N' hab'
        k_steps
        refine Hold.mk ?_
        rw [fmod3]
        refine law_least (k := way % 3) (by ktr_rel) N2' (.tail _ (.tail _ (List.mem_append_right own2 (List.mem_append_right own hfr)))) (hfq.imp fun _ _ x => x.imp fun p hp => .tail _ (.tail _ (List.mem_append_right own2 (List.mem_append_right own hp)))) hqs (by decide) (by decide) (Nat.mod_lt _ (by decide)) hqz fun v3 own3 h3' tk3' hL3 F3' N3' hO3 => ?_
        rw [least_none hS2] at hL3
        obtain rfl := hL3.of_nil
        clear F2' N2'
        k_steps
        (try (rename @Ne Int _ _ => h9; exact absurd rfl h9))
        exact ret _ _ _ _ ps2' (own3 ++ (own2 ++ own)) hab2' (by k_asm) (cb_drop N3' led4) (own_app (own_neX hO3) (own_app (own_ltX hO2) (own_ltX (own1 := []) hO))) (hT2'.mono led4T)
    · intro h' tk' gs' d' ps' own hS hab' F' N' hO hT'
      rw [hk] at hS
      rw [least_none hS] at hdue
      obtain rfl := hdue.of_nil
      clear F N hab
      have w1 := List.mem_append_right own h1
      have w2 := List.mem_append_right own h2
      k_steps
      (try (rename @Ne Int _ _ => h9; exact absurd rfl h9))
      refine Hold.mk ?_
      refine fitness_any hC (by ktr_rel) CH XB TB N' hsz (newNeX hO hn) (newNeX2 hO hn2) hne hT' w1 w2 (hq.mono fun _ => List.mem_append_right own) hqs (by decide) (by decide) hab' ?_ ?_
      · intro j2 n2 fl2 t2 h2' tk2' gs2' d2' ps2' own2 hS2 hab2' F2' N2' hO2 hT2'
        rw [hk] at hS2
        clear F' N' hab'
        k_steps
        refine Hold.mk ?_
        rw [fmod3]
        refine law_least (k := way % 3) (by ktr_rel) N2' (.tail _ (.tail _ (List.mem_append_right own2 (List.mem_append_right own hfr)))) (hfq.imp fun _ _ x => x.imp fun p hp => .tail _ (.tail _ (List.mem_append_right own2 (List.mem_append_right own hp)))) hqs (by decide) (by decide) (Nat.mod_lt _ (by decide)) hqz fun v3 own3 h3' tk3' hL3 F3' N3' hO3 => ?_
        obtain ⟨t3, rfl⟩ := hL3.of_least (least_some hS2).1 (least_some hS2).2
        clear F2' N2'
        k_steps
        (try (rename @Ne Int _ _ => h9; exact absurd rfl h9))
        exact ret _ _ _ _ ps2' (own3 ++ (own2 ++ own)) hab2' (by k_asm) (cb_drop N3' led4) (own_app (own_neX hO3) (own_app (own_ltX hO2) (own_ltX (own1 := []) hO))) (hT2'.mono led4T)
      · intro h2' tk2' gs2' d2' ps2' own2 hS2 hab2' F2' N2' hO2 hT2'
        rw [hk] at hS2
        clear F' N' hab'
        k_steps
        refine Hold.mk ?_
        rw [fmod3]
        refine law_least (k := way % 3) (by ktr_rel) N2' (.tail _ (.tail _ (List.mem_append_right own2 (List.mem_append_right own hfr)))) (hfq.imp fun _ _ x => x.imp fun p hp => .tail _ (.tail _ (List.mem_append_right own2 (List.mem_append_right own hp)))) hqs (by decide) (by decide) (Nat.mod_lt _ (by decide)) hqz fun v3 own3 h3' tk3' hL3 F3' N3' hO3 => ?_
        rw [least_none hS2] at hL3
        obtain rfl := hL3.of_nil
        clear F2' N2'
        k_steps
        (try (rename @Ne Int _ _ => h9; exact absurd rfl h9))
        exact ret _ _ _ _ ps2' (own3 ++ (own2 ++ own)) hab2' (by k_asm) (cb_drop N3' led4) (own_app (own_neX hO3) (own_app (own_ltX hO2) (own_ltX (own1 := []) hO))) (hT2'.mono led4T)
  · exact ret _ _ _ _ ps [] hab (by k_asm) N own_nil hT
end
end Mine
namespace Mine
theorem hold_add {M : Model} {A : Around} {E : Value → Shared → Prop} {s : Shared} {Q : Value → Shared → Prop} {vs : List Value} (h : Hold (wpAny M A (call (.ref 373) vs) Q E s)) : wpAny M A (call (.ref 373) vs) Q E s := h.get
theorem hold_store {M : Model} {A : Around} {E : Value → Shared → Prop} {s : Shared} {Q : Unit → Shared → Prop} {env : Env} {v : Value} {x : Str} (h : Hold (wpAny M A (storeName env x v) Q E s)) : wpAny M A (storeName env x v) Q E s := h.get
local macro_rules | `(tactic| walk_at "mine.dummy") => `(tactic| skip)
local macro_rules | `(tactic| walk_at "call ref") => Mine.sRef "Mine.hold_least Mine.hold_fit Mine.hold_add"
local macro_rules | `(tactic| walk_at "storeName") => Mine.sHold "Mine.hold_store"
theorem led5 {α : Type} {l t r x : α} {own nw : List α} : ∀ q ∈ x :: l :: t :: r :: (own ++ nw), q ∈ l :: t :: r :: (own ++ x :: nw) := perm_of [[l], [t], [r], own, [x]] [4, 0, 1, 2, 3] nw
theorem led5b {α : Type} {l t r x : α} {nw : List α} : ∀ q ∈ l :: t :: r :: x :: nw, q ∈ x :: l :: t :: r :: nw := perm_of [[x], [l], [t], [r]] [1, 2, 3, 0] nw
section
variable {w : World} {dp un : Nat} {gd : Option (List Code)} {env : Env} {outer : List Env} {A₀ : Around} {base h₀ : Heap} {L : Addr} {m : Str → Option Value} {p : Program} {loose : List Str} {mean : ExcName → Option Value} {mg mb : Str → Option Value} {news : List (Addr × Obj)} {s : Shared} {Q E : Value → Shared → Prop}
variable {fa : Addr} {cd : Value}
/-- told = box.add_rect(w, h, rid) -/
theorem turn2 {C b db ls lr sf : Addr} {Wb Hb : Value} {rotb : Bool} {hb kb : _} {rid : Nat} {wi hi : Int} {t4 t5 t6 : Tok} {secs rects : List Value} {qs : List Q4} {ns nr : Nat} {ps : Array Value} {oT : Obj} {v0 : Option Value} {Q : Flow → Shared → Prop}
    (hC : C ∈ BX) (Cc : Cx 24 w dp un (LE L fa cd) [] A₀ base h₀ L m p loose mean mg mb s.heap) (CH : CodeHd base 364 360) (XB : (Mine.K w.params).In base) (TB : Top p loose mean mg mb base)
    (N : News h₀ L s.heap ((ls, listOf secs.toArray ns) :: (360, tabObj ps) :: (lr, listOf rects.toArray nr) :: (L + 1, oT) :: news)) (hoT : oT.data = .cell v0) (hsz : secs.length ≤ 900) (hsr : rects.length ≤ 900)
    (hn : ∀ p ∈ (lr, listOf rects.toArray nr) :: (L + 1, oT) :: news, p.1 ≠ ls) (hn2 : ∀ p ∈ (lr, listOf rects.toArray nr) :: (L + 1, oT) :: news, p.1 ≠ 360) (hn3 : ∀ p ∈ (L + 1, oT) :: news, p.1 ≠ lr) (hn4 : ∀ p ∈ news, p.1 ≠ L + 1) (hne : ls ≠ 360) (hT : TabOk ps news)
    (h1 : (b, instObj C db) ∈ news) (h2 : (db, dictOf (boxDict Wb Hb (.bool rotb) lr sf ls hb kb) 8) ∈ news) (hq : SecsIn news secs qs)
    (hqs : ∀ q ∈ qs, 0 ≤ q.2.2.1 ∧ q.2.2.1 < bigI ∧ 0 ≤ q.2.2.2 ∧ q.2.2.2 < bigI) (hw : 0 < wi) (hh : 0 < hi) (hab : AllBare s.gens)
    (hnd : ∀ (i j : Nat) (q q' : Q4), qs[i]? = some q → qs[j]? = some q' → i ≠ j → q ≠ q')
    (m0 : m (Str.ofString "rid") = some (.int rid t4)) (m3 : m (Str.ofString "w") = some (.int wi t5)) (m4 : m (Str.ofString "h") = some (.int hi t6)) (m7 : m (Str.ofString "box") = some (.ref b))
    (retS : ∀ j n fl q r' d' hs ks t1 t2 t3 t4' refs ns' nr' oT' h' tk' gs' dr' ps' own, qs[j]? = some q → SelOk (choiceOf C) qs wi hi rotb j n fl → AllBare gs' → Fr h₀ L h' m → oT'.data = .cell (some (.ref r')) →
      News h₀ L h' ((ls, listOf (secs.eraseIdx j ++ refs).toArray ns') :: (360, tabObj ps') :: (lr, listOf (rects ++ [Value.ref r']).toArray nr') :: (L + 1, oT') :: (own ++ news)) →
      (r', instObj 203 d') ∈ own → (d', dictOf (secDict (.int (if fl then hi else wi) t1) (.int (if fl then wi else hi) t2) (.int q.1 t3) (.int q.2.1 t4') (.int rid t4) hs ks) 5) ∈ own →
      SecsIn own refs (cutBy (splitOf C) q.1 q.2.1 q.2.2.1 q.2.2.2 (if fl then hi else wi) (if fl then wi else hi)) →
      (∀ q ∈ own, ∀ r ∈ (ls, listOf secs.toArray ns) :: (360, tabObj ps) :: (lr, listOf rects.toArray nr) :: (L + 1, oT) :: news, @LT.lt Nat _ r.1 q.1) → TabOk ps' (own ++ news) → Q .next { s with heap := h', gens := gs', drawn := dr', toks := tk' })
    (retN : ∀ oT' h' tk' gs' dr' ps' own, SelNone (choiceOf C) qs wi hi rotb → AllBare gs' → Fr h₀ L h' m → oT'.data = .cell (some .none) →
      News h₀ L h' ((ls, listOf secs.toArray ns) :: (360, tabObj ps') :: (lr, listOf rects.toArray nr) :: (L + 1, oT') :: (own ++ news)) →
      (∀ q ∈ own, ∀ r ∈ (ls, listOf secs.toArray ns) :: (360, tabObj ps) :: (lr, listOf rects.toArray nr) :: (L + 1, oT) :: news, @LT.lt Nat _ r.1 q.1) → TabOk ps' (own ++ news) → Q .next { s with heap := h', gens := gs', drawn := dr', toks := tk' }) :
    wpAny (model PW w) (AR dp un gd (LE L fa cd) []) (exec (turnAt 2) (LE L fa cd)) Q E s := by
  obtain ⟨B, F, X, T, -, -, hdp, hun⟩ := Cc
  have w1 : (b, instObj C db) ∈ (L + 1, oT) :: news := .tail _ h1
  have w2 : (db, dictOf (boxDict Wb Hb (.bool rotb) lr sf ls hb kb) 8) ∈ (L + 1, oT) :: news := .tail _ h2
  have e1 : (turnAt 2) = (turnAt 2) := rfl
  (conv at e1 => rhs; whnf)
  rw [e1]
  clear e1
  unfold LE at *
  have e2 : lawScope = lawScope := rfl
  (conv at e2 => rhs; whnf)
  rw [e2]
  clear e2
  k_steps
  refine Hold.mk ?_
  have dropT : ∀ {ps' : Array Value} {own : List (Addr × Obj)}, TabOk ps' (own ++ (L + 1, oT) :: news) → TabOk ps' (own ++ news) := fun h => h.drop (x := (L + 1, oT)) (fun vs e => by rw [hoT] at e; cases e) fun q hq => by
    simp only [List.mem_cons, List.mem_append] at hq ⊢; grind
  have apartT : ∀ {A B D : Addr × Obj} {own : List (Addr × Obj)} {a b : Obj}, (∀ q ∈ own, ∀ r ∈ (ls, a) :: (360, tabObj ps) :: (lr, b) :: (L + 1, oT) :: news, @LT.lt Nat _ r.1 q.1) → A.1 = ls → B.1 = 360 → D.1 = lr → ∀ p ∈ A :: B :: D :: (own ++ news), p.1 ≠ L + 1 := fun {A B D own a b} ho eA eB eD p hp => by
    rcases List.mem_cons.mp hp with rfl | hp
    · rw [eA]; exact Ne.symm (hn (L + 1, oT) (.tail _ (.head _)))
    rcases List.mem_cons.mp hp with rfl | hp
    · rw [eB]; exact Ne.symm (hn2 (L + 1, oT) (.tail _ (.head _)))
    rcases List.mem_cons.mp hp with rfl | hp
    · rw [eD]; exact Ne.symm (hn3 (L + 1, oT) (.head _))
    rcases List.mem_append.mp hp with hp | hp
    · exact Nat.ne_of_gt (ho p hp (L + 1, oT) (.tail _ (.tail _ (.tail _ (.head _)))))
    · exact hn4 p hp
  refine add_any hC (by ktr_rel) CH XB TB N hsz hsr hn hn2 hn3 hne (hT.mono fun _ => .tail _) w1 w2 (hq.mono fun _ => .tail _) hqs hw hh hab hnd ?_ ?_
  · intro j n fl q r' d' hs ks t1 t2 t3 t4' refs ns' nr' h' tk' gs' dr' ps' own hqj hS hab' F' N' n1 n2 hc ho hT'
    clear F N
    k_steps
    refine Hold.mk ?_
    refine storeX_C F' (cb_drop N' led5) rfl (.head (apartT ho rfl rfl rfl)) hoT fun h2 o2 F2 N2 d2 => ?_
    exact retS j n fl q r' d' hs ks t1 t2 t3 t4' refs ns' nr' o2 h2 _ gs' dr' ps' own hqj hS hab' F2 d2 (cb_drop N2 led5b) n1 n2 hc ho (dropT hT')
  · intro h' tk' gs' dr' ps' own hS hab' F' N' ho hT'
    clear F N
    k_steps
    refine Hold.mk ?_
    refine storeX_C F' (cb_drop N' led5) rfl (.head (apartT ho rfl rfl rfl)) hoT fun h2 o2 F2 N2 d2 => ?_
    exact retN o2 h2 _ gs' dr' ps' own hS hab' F2 d2 (cb_drop N2 led5b) ho (dropT hT')
end
end Mine
namespace Mine
open PyProof.V PySem.SeqAt
theorem hold_rl {M : Model} {A : Around} {E : Value → Shared → Prop} {s : Shared} {Q : Value → Shared → Prop} {vs : List Value} (h : Hold (wpAny M A (call (.ref 280) vs) Q E s)) : wpAny M A (call (.ref 280) vs) Q E s := h.get
theorem hold_ne {M : Model} {A : Around} {E : Value → Shared → Prop} {s : Shared} {Q : Value → Shared → Prop} {a b : Value} (h : Hold (wpAny M A (compareOp .NotEq a b) Q E s)) : wpAny M A (compareOp .NotEq a b) Q E s := h.get
local macro_rules | `(tactic| walk_at "call ref") => Mine.sHold "Mine.hold_rl"
local macro_rules | `(tactic| walk_at "compareOp NotEq ref ref") => Mine.sHold "Mine.hold_ne"
noncomputable def d5 (r : Q5) : PyData := .tuple [.int r.1, .int r.2.1, .int r.2.2.1, .int r.2.2.2.1, .int r.2.2.2.2]
theorem reads5 {h₀ h : Heap} {L : Addr} {led : List (Addr × Obj)} (N : News h₀ L h led) : ∀ {us : List Value} {rs : List Q5}, ListR (TupAt5 led) us rs → ReadsAll h us (rs.map d5) []
  | [], [], _ => .nil
  | u :: us, r :: rs, x => by
    obtain ⟨⟨t, t1, t2, t3, t4, t5, rfl, hm⟩, h2⟩ := x
    have z : Reads h (.ref t) (d5 r) [] := Reads.tuple (N _ hm).1 rfl rfl (.cons (.int _ _) (.cons (.int _ _) (.cons (.int _ _) (.cons (.int _ _) (.cons (.int _ _) .nil)))))
    exact ReadsAll.cons z (reads5 N h2)
  | [], _ :: _, x => x.elim
  | _ :: _, [], x => x.elim
theorem lay5 : ∀ rs : List Q5, PyData.canLayAll0 (rs.map d5) = true
  | [] => by simp [PyData.canLayAll0]
  | r :: rs => by simp [PyData.canLayAll0, PyData.canLay0, d5, lay5 rs]
theorem deep5 : ∀ rs : List Q5, PyData.depthAll (rs.map d5) ≤ 2
  | [] => by simp [PyData.depthAll]
  | _ :: rs => Nat.max_le.mpr ⟨Nat.le_of_ble_eq_true rfl, deep5 rs⟩
theorem shaped5 (rs : List Q5) : shaped (.list (rs.map d5)) = true := by
  have h1 := deep5 rs
  have h2 : PyData.depth (.list (rs.map d5)) ≤ 64 := by simp only [PyData.depth]; omega
  show (PyData.canLay0 (.list (rs.map d5)) && decide (PyData.depth (.list (rs.map d5)) ≤ 64)) = true
  rw [Bool.and_eq_true]
  exact ⟨by simp only [PyData.canLay0]; exact lay5 rs, decide_eq_true h2⟩
theorem mix5 : ∀ rs : List Q5, noMixAll (rs.map d5) (rs.map d5) = true
  | [] => by simp [noMixAll]
  | r :: rs => by simp [noMixAll, noMix, d5, mix5 rs]
theorem same5 : ∀ rs : List Q5, PySem.Spec.sameAll (rs.map d5) (rs.map d5) = true
  | [] => by simp [PySem.Spec.sameAll]
  | r :: rs => by simp [PySem.Spec.sameAll, PySem.Spec.same, d5, same5 rs]
theorem ne5 {A : Around} {s : Shared} {E : Value → Shared → Prop} {w : World} {prog : Program} {h₀ : Heap} {L a b : Addr} {led : List (Addr × Obj)} {us vs : List Value} {rs : List Q5} {n k : Nat} {Q : Value → Shared → Prop} (N : News h₀ L s.heap led) (ha : (a, listOf us.toArray n) ∈ led) (hb : (b, listOf vs.toArray k) ∈ led)
    (h1 : ListR (TupAt5 led) us rs) (h2 : ListR (TupAt5 led) vs rs) (hu : A.units + 64 < cLine) (h : Q (.bool false) s) : wpAny (model prog w) A (compareOp .NotEq (.ref a) (.ref b)) Q E s := by
  have r1 : Reads s.heap (.ref a) (.list (rs.map d5)) [a] := Reads.list (N _ ha).1 rfl rfl (reads5 N h1)
  have r2 : Reads s.heap (.ref b) (.list (rs.map d5)) [b] := Reads.list (N _ hb).1 rfl rfl (reads5 N h2)
  refine ne_dataH_same r1 r2 (shaped5 rs) (shaped5 rs) hu (by simp only [noMix]; exact mix5 rs) ?_
  rw [show PySem.Spec.same (.list (rs.map d5)) (.list (rs.map d5)) = true by simp only [PySem.Spec.same]; exact same5 rs]
  exact h
section
variable {w : World} {dp un : Nat} {gd : Option (List Code)} {env : Env} {outer : List Env} {A₀ : Around} {base h₀ : Heap} {L : Addr} {m : Str → Option Value} {p : Program} {loose : List Str} {mean : ExcName → Option Value} {mg mb : Str → Option Value} {news : List (Addr × Obj)} {s : Shared} {Q E : Value → Shared → Prop}
variable {fa : Addr} {cd : Value}
/-- if (told is None) != (due is None): not taken -/
theorem turn3 {oT : Obj} {tv due : Value} {Q : Flow → Shared → Prop} (Cc : Cx 12 w dp un (LE L fa cd) [] A₀ base h₀ L m p loose mean mg mb s.heap) (N : News h₀ L s.heap news)
    (hT : (L + 1, oT) ∈ news) (hoT : oT.data = .cell (some tv)) (m6 : m (Str.ofString "due") = some due) (hc : (tv = .none ∧ due = .none) ∨ ∃ r n t, tv = .ref r ∧ due = .int n t)
    (ret : ∀ h' tk', Fr h₀ L h' m → News h₀ L h' news → Q .next { s with heap := h', toks := tk' }) :
    wpAny (model PW w) (AR dp un gd (LE L fa cd) []) (exec (turnAt 3) (LE L fa cd)) Q E s := by
  obtain ⟨B, F, X, T, -, -, hdp, hun⟩ := Cc
  have e1 : (turnAt 3) = (turnAt 3) := rfl
  (conv at e1 => rhs; whnf)
  rw [e1]
  clear e1
  unfold LE at *
  have e2 : lawScope = lawScope := rfl
  (conv at e2 => rhs; whnf)
  rw [e2]
  clear e2
  rcases hc with ⟨rfl, rfl⟩ | ⟨r, n, t, rfl, rfl⟩
  · k_steps
    exact ret _ _ (by k_asm) (by k_asm)
  · k_steps
    exact ret _ _ (by k_asm) (by k_asm)
/-- if told is not None: not taken where it is -/
theorem turn4N {oT : Obj} {Q : Flow → Shared → Prop} (Cc : Cx 12 w dp un (LE L fa cd) [] A₀ base h₀ L m p loose mean mg mb s.heap) (N : News h₀ L s.heap news)
    (hT : (L + 1, oT) ∈ news) (hoT : oT.data = .cell (some .none))
    (ret : ∀ h' tk', Fr h₀ L h' m → News h₀ L h' news → Q .next { s with heap := h', toks := tk' }) :
    wpAny (model PW w) (AR dp un gd (LE L fa cd) []) (exec (turnAt 4) (LE L fa cd)) Q E s := by
  obtain ⟨B, F, X, T, -, -, hdp, hun⟩ := Cc
  have e1 : (turnAt 4) = (turnAt 4) := rfl
  (conv at e1 => rhs; whnf)
  rw [e1]
  clear e1
  unfold LE at *
  have e2 : lawScope = lawScope := rfl
  (conv at e2 => rhs; whnf)
  rw [e2]
  clear e2
  k_steps
  exact ret _ _ (by k_asm) (by k_asm)
/-- if box.rect_list() != listed: not taken -/
theorem turn5 {C b db ls lr sf sl : Addr} {Wb Hb rotv : Value} {hb kb : _} {rects us : List Value} {rs : List Q5} {nr nu : Nat} {Q : Flow → Shared → Prop} (hC : C ∈ BX) (Cc : Cx 20 w dp un (LE L fa cd) [] A₀ base h₀ L m p loose mean mg mb s.heap) (N : News h₀ L s.heap news)
    (h1 : (b, instObj C db) ∈ news) (h2 : (db, dictOf (boxDict Wb Hb rotv lr sf ls hb kb) 8) ∈ news) (h3 : (lr, listOf rects.toArray nr) ∈ news) (hr : ListR (RectAt news) rects rs) (hsz : rects.length ≤ 900) (hab : AllBare s.gens)
    (h4 : (sl, listOf us.toArray nu) ∈ news) (hu : ListR (TupAt5 news) us rs) (m7 : m (Str.ofString "box") = some (.ref b)) (m8 : m (Str.ofString "listed") = some (.ref sl))
    (ret : ∀ h' tk' gs' dr' own, AllBare gs' → Fr h₀ L h' m → News h₀ L h' (own ++ news) → Own news own → Q .next { s with heap := h', gens := gs', drawn := dr', toks := tk' }) :
    wpAny (model PW w) (AR dp un gd (LE L fa cd) []) (exec (turnAt 5) (LE L fa cd)) Q E s := by
  obtain ⟨B, F, X, T, -, -, hdp, hun⟩ := Cc
  have e1 : (turnAt 5) = (turnAt 5) := rfl
  (conv at e1 => rhs; whnf)
  rw [e1]
  clear e1
  unfold LE at *
  have e2 : lawScope = lawScope := rfl
  (conv at e2 => rhs; whnf)
  rw [e2]
  clear e2
  k_steps
  refine Hold.mk ?_
  refine rect_list_any hC (by ktr_rel) N h1 h2 h3 hr hsz hab ?_
  intro S ts c own h' tk' gs' dr' hab' F' N' hts ho hS
  clear F N
  k_steps
  refine Hold.mk ?_
  have sub : ∀ p ∈ news, p ∈ (S, lstO ts c) :: (own ++ news) := fun p hp => .tail _ (List.mem_append_right own hp)
  refine ne5 N' (.head _) (sub _ h4) (hts.imp fun _ _ => TupAt5.mono fun _ hp => .tail _ (List.mem_append_left _ hp)) (hu.imp fun _ _ => TupAt5.mono sub) (by k_units) ?_
  k_steps
  refine ret _ _ _ _ ((S, lstO ts c) :: own) hab' (by k_asm) N' (own_cons (fun r hr => Nat.ne_of_lt (hS r hr)) fun q hq r hr => Nat.ne_of_lt (ho q hq r hr))
end
end Mine
namespace Mine
open PyProof.V PySem.SeqAt
noncomputable def toldBody : List Stmt := match turnAt 4 with | .If _ b _ _ => b | _ => []
noncomputable def toldAt (i : Nat) : Stmt := toldBody.getD i (.Pass ⟨0, 0, 0, 0⟩)
theorem hold_eq {M : Model} {A : Around} {E : Value → Shared → Prop} {s : Shared} {Q : Value → Shared → Prop} {a b : Value} (h : Hold (wpAny M A (compareOp .Eq a b) Q E s)) : wpAny M A (compareOp .Eq a b) Q E s := h.get
local macro_rules | `(tactic| walk_at "mine.dummy") => `(tactic| skip)
local macro_rules | `(tactic| walk_at "compareOp NotEq ref ref") => Mine.sHold "Mine.hold_ne"
local macro_rules | `(tactic| walk_at "compareOp Eq ref ref") => Mine.sHold "Mine.hold_eq"
theorem cmp2 {s : Shared} {h₀ : Heap} {L : Addr} {led : List (Addr × Obj)} {a : Addr} {x y : Int} {t1 t2 : Tok} (N : News h₀ L s.heap led) (ha : (a, tupO [.int x t1, .int y t2]) ∈ led) : Reads s.heap (.ref a) (.tuple [.int x, .int y]) [] :=
  Reads.tuple (N _ ha).1 rfl rfl (.cons (.int _ _) (.cons (.int _ _) .nil))
theorem ne2 {A : Around} {s : Shared} {E : Value → Shared → Prop} {w : World} {prog : Program} {h₀ : Heap} {L a b : Addr} {led : List (Addr × Obj)} {x y x' y' : Int} {t1 t2 t3 t4 : Tok} {Q : Value → Shared → Prop} (N : News h₀ L s.heap led) (ha : (a, tupO [.int x t1, .int y t2]) ∈ led) (hb : (b, tupO [.int x' t3, .int y' t4]) ∈ led)
    (hu : A.units + 64 < cLine) (h : ∀ β, β = (!decide (x = x' ∧ y = y')) → Q (.bool β) s) : wpAny (model prog w) A (compareOp .NotEq (.ref a) (.ref b)) Q E s := by
  refine ne_dataH_same (cmp2 N ha) (cmp2 N hb) (by with_unfolding_all rfl) (by with_unfolding_all rfl) hu (by simp [noMix, noMixAll]) (h _ ?_)
  simp [PySem.Spec.same, PySem.Spec.sameAll, BEq.beq]
theorem eq2 {A : Around} {s : Shared} {E : Value → Shared → Prop} {w : World} {prog : Program} {h₀ : Heap} {L a b : Addr} {led : List (Addr × Obj)} {x y x' y' : Int} {t1 t2 t3 t4 : Tok} {Q : Value → Shared → Prop} (N : News h₀ L s.heap led) (ha : (a, tupO [.int x t1, .int y t2]) ∈ led) (hb : (b, tupO [.int x' t3, .int y' t4]) ∈ led)
    (hu : A.units + 64 < cLine) (h : ∀ β, β = decide (x = x' ∧ y = y') → Q (.bool β) s) : wpAny (model prog w) A (compareOp .Eq (.ref a) (.ref b)) Q E s := by
  refine eq_dataH_same (cmp2 N ha) (cmp2 N hb) (by with_unfolding_all rfl) (by with_unfolding_all rfl) hu (by simp [noMix, noMixAll]) (h _ ?_)
  simp [PySem.Spec.same, PySem.Spec.sameAll, BEq.beq]
section
variable {w : World} {dp un : Nat} {gd : Option (List Code)} {env : Env} {outer : List Env} {A₀ : Around} {base h₀ : Heap} {L : Addr} {m : Str → Option Value} {p : Program} {loose : List Str} {mean : ExcName → Option Value} {mg mb : Str → Option Value} {news : List (Addr × Obj)} {s : Shared} {Q E : Value → Shared → Prop}
variable {fa : Addr} {cd : Value}
/-- a, b = (told.width, told.height) -/
theorem told0 {r d : Addr} {oT oA oB : Obj} {va vb : Option Value} {aw ah : Int} {t1 t2 : Tok} {x y rid : Value} {hs ks : _} {Q : Flow → Shared → Prop} (Cc : Cx 12 w dp un (LE L fa cd) [] A₀ base h₀ L m p loose mean mg mb s.heap)
    (N : News h₀ L s.heap ((L + 1, oT) :: (L + 1 + 1, oA) :: (L + 1 + 1 + 1, oB) :: news)) (hA : ∀ p ∈ news, p.1 ≠ L + 1 + 1) (hB : ∀ p ∈ news, p.1 ≠ L + 1 + 1 + 1)
    (hoT : oT.data = .cell (some (.ref r))) (hoA : oA.data = .cell va) (hoB : oB.data = .cell vb) (n1 : (r, instObj 203 d) ∈ news) (n2 : (d, dictOf (secDict (.int aw t1) (.int ah t2) x y rid hs ks) 5) ∈ news)
    (ret : ∀ oA' oB' h' tk', oA'.data = .cell (some (.int aw t1)) → oB'.data = .cell (some (.int ah t2)) → Fr h₀ L h' m → News h₀ L h' ((L + 1, oT) :: (L + 1 + 1, oA') :: (L + 1 + 1 + 1, oB') :: news) → Q .next { s with heap := h', toks := tk' }) :
    wpAny (model PW w) (AR dp un gd (LE L fa cd) []) (exec (toldAt 0) (LE L fa cd)) Q E s := by
  obtain ⟨B, F, X, T, -, -, hdp, hun⟩ := Cc
  have e1 : (toldAt 0) = (toldAt 0) := rfl
  (conv at e1 => rhs; whnf)
  rw [e1]
  clear e1
  unfold LE at *
  have e2 : lawScope = lawScope := rfl
  (conv at e2 => rhs; whnf)
  rw [e2]
  clear e2
  k_steps
  rename Fr _ _ _ _ => Fz
  rename News _ _ _ _ => Nz
  exact ret _ _ _ _ (by assumption) (by assumption) Fz (cb_drop Nz fun _ => .tail _)
/-- the turn is let and the number is right -/
theorem told1 {r d : Addr} {oT oA oB : Obj} {wi hi : Int} {fl rotb : Bool} {rid : Nat} {t1 t2 t4 t4' t5 t6 : Tok} {x y : Value} {hs ks : _} {Q : Flow → Shared → Prop} (Cc : Cx 20 w dp un (LE L fa cd) [] A₀ base h₀ L m p loose mean mg mb s.heap)
    (N : News h₀ L s.heap news) (cT : (L + 1, oT) ∈ news) (cA : (L + 1 + 1, oA) ∈ news) (cB : (L + 1 + 1 + 1, oB) ∈ news)
    (hoT : oT.data = .cell (some (.ref r))) (hoA : oA.data = .cell (some (.int (if fl then hi else wi) t1))) (hoB : oB.data = .cell (some (.int (if fl then wi else hi) t2))) (n1 : (r, instObj 203 d) ∈ news) (n2 : (d, dictOf (secDict (.int (if fl then hi else wi) t1) (.int (if fl then wi else hi) t2) x y (.int rid t4') hs ks) 5) ∈ news)
    (m0 : m (Str.ofString "rid") = some (.int rid t4)) (m3 : m (Str.ofString "w") = some (.int wi t5)) (m4 : m (Str.ofString "h") = some (.int hi t6)) (m5 : m (Str.ofString "rot") = some (.bool rotb)) (hfl : fl = true → rotb = true)
    (ret : ∀ h' tk', Fr h₀ L h' m → News h₀ L h' news → Q .next { s with heap := h', toks := tk' }) :
    wpAny (model PW w) (AR dp un gd (LE L fa cd) []) (exec (toldAt 1) (LE L fa cd)) Q E s := by
  obtain ⟨B, F, X, T, -, -, hdp, hun⟩ := Cc
  have e1 : (toldAt 1) = (toldAt 1) := rfl
  (conv at e1 => rhs; whnf)
  rw [e1]
  clear e1
  unfold LE at *
  have e2 : lawScope = lawScope := rfl
  (conv at e2 => rhs; whnf)
  rw [e2]
  clear e2
  cases fl with
  | false =>
    rw [if_neg Bool.false_ne_true] at hoA hoB n2
    rw [if_neg Bool.false_ne_true] at n2
    k_steps
    refine Hold.mk ?_
    rename Fr _ _ _ _ => Fz
    rename News _ _ _ _ => Nz
    refine ne2 Nz (by k_mem) (by k_mem) (by k_units) fun β hβ => ?_
    obtain rfl : β = false := by rw [hβ]; simp
    k_steps
    · rename @Ne Int _ _ => h9; exact absurd rfl h9
    · exact ret _ _ Fz (cb_drop Nz fun _ hp => .tail _ (.tail _ hp))
  | true =>
    obtain rfl := hfl rfl
    rw [if_pos rfl] at hoA hoB n2
    rw [if_pos rfl] at n2
    k_steps
    refine Hold.mk ?_
    rename Fr _ _ _ _ => Fz
    rename News _ _ _ _ => Nz
    refine ne2 Nz (by k_mem) (by k_mem) (by k_units) fun β hβ => ?_
    cases β with
    | false =>
      k_steps
      · rename @Ne Int _ _ => h9; exact absurd rfl h9
      · exact ret _ _ Fz (cb_drop Nz fun _ hp => .tail _ (.tail _ hp))
    | true =>
      k_steps
      refine Hold.mk ?_
      rename Fr _ _ _ _ => Fz
      rename News _ _ _ _ => Nz
      refine eq2 Nz (by k_mem) (by k_mem) (by k_units) fun β hβ => ?_
      obtain rfl : β = true := by rw [hβ]; simp
      k_steps
      · rename @Ne Int _ _ => h9; exact absurd rfl h9
      · exact ret _ _ Fz (cb_drop Nz fun _ hp => .tail _ (.tail _ (.tail _ (.tail _ hp))))
end
end Mine
namespace Mine
open PyProof.Rows.LCg PyProof.Rows.LCt
theorem led6 {α : Type} {x y : α} {nw : List α} : ∀ q ∈ x :: y :: nw, q ∈ y :: x :: nw := perm_of [[y], [x]] [1, 0] nw
section
variable {w : World} {dp un : Nat} {gd : Option (List Code)} {env : Env} {outer : List Env} {A₀ : Around} {base h₀ : Heap} {L : Addr} {m : Str → Option Value} {p : Program} {loose : List Str} {mean : ExcName → Option Value} {mg mb : Str → Option Value} {news : List (Addr × Obj)} {s : Shared} {Q E : Value → Shared → Prop}
variable {fa : Addr} {cd : Value}
/-- corner = [the free sections at told's corner that hold it] -/
theorem told2 {r d : Addr} {oT oA oB oC : Obj} {vc : Option Value} {aw ah : Int} {t1 t2 t3 t4 ta tb : Tok} {rid : Value} {hs ks : _} {fr : Addr} {vs : List Value} {nf : Nat} {qs : List Q4} {q0 : Q4} {Q : Flow → Shared → Prop} (Cc : Cx 20 w dp un (LE L fa cd) [] A₀ base h₀ L m p loose mean mg mb s.heap)
    (N : News h₀ L s.heap ((L + 1 + 1 + 1 + 1, oC) :: news)) (hC4 : ∀ p ∈ news, p.1 ≠ L + 1 + 1 + 1 + 1) (cT : (L + 1, oT) ∈ news) (cA : (L + 1 + 1, oA) ∈ news) (cB : (L + 1 + 1 + 1, oB) ∈ news)
    (hoT : oT.data = .cell (some (.ref r))) (hoA : oA.data = .cell (some (.int aw ta))) (hoB : oB.data = .cell (some (.int ah tb))) (hoC : oC.data = .cell vc) (n1 : (r, instObj 203 d) ∈ news) (n2 : (d, dictOf (secDict (.int aw t1) (.int ah t2) (.int q0.1 t3) (.int q0.2.1 t4) rid hs ks) 5) ∈ news)
    (m2 : m (Str.ofString "free") = some (.ref fr)) (hfr : (fr, listOf vs.toArray nf) ∈ news) (hfq : ListR (TupAt4 news) vs qs) (hqz : qs.length ≤ 900)
    (ret : ∀ D ys oC' h' tk', ListR (TupAt4 news) ys (qs.filter (cornerP q0 aw ah)) → oC'.data = .cell (some (.ref D)) → Fr h₀ L h' m → News h₀ L h' ((L + 1 + 1 + 1 + 1, oC') :: (D, lst ys) :: news) → (∀ r ∈ (L + 1 + 1 + 1 + 1, oC) :: news, @Ne Nat r.1 D) → Q .next { s with heap := h', toks := tk' }) :
    wpAny (model PW w) (AR dp un gd (LE L fa cd) []) (exec (toldAt 2) (LE L fa cd)) Q E s := by
  obtain ⟨B, F, X, T, -, -, hdp, hun⟩ := Cc
  have e1 : (toldAt 2) = (toldAt 2) := rfl
  (conv at e1 => rhs; whnf)
  rw [e1]
  clear e1
  unfold LE at *
  have e2 : lawScope = lawScope := rfl
  (conv at e2 => rhs; whnf)
  rw [e2]
  clear e2
  refine wpAny_Assign_Name ?_ (by rfl)
  refine ListComp_T (cl := [(Str.ofString "told", L + 1), (Str.ofString "b", L + 1 + 1 + 1), (Str.ofString "a", L + 1 + 1)]) F (by with_unfolding_all rfl) (by decide) rfl (by decide) rfl ?_ (fun _ => by with_unfolding_all rfl)
  refine wpAny_Name (wpAny_loadName_local rfl rfl F.ns m2 ?_) (by decide)
  refine CompSrcT.ledger rfl F N (.tail _ hfr) ?_ fun g => filt_rest (R := TupAt4 news) (p := cornerP q0 aw ah) (qs := qs) rfl rfl (by decide) (.inr ⟨_, .tail _ hfr, rfl, _, rfl⟩) hfq ?_ ?_
  · rw [List.size_toArray, hfq.length]; exact Nat.le_trans hqz (by decide)
  · intro v q ys I oI C oC' D mm h tk E' hv hr hqm hns hmx Fz Nz off
    obtain ⟨ca, s1, s2, s3, s4, rfl, hcm⟩ := hr
    have cT' : (L + 1, oT) ∈ (L + 1 + 1 + 1 + 1, oC) :: news := .tail _ cT
    have cA' : (L + 1 + 1, oA) ∈ (L + 1 + 1 + 1 + 1, oC) :: news := .tail _ cA
    have cB' : (L + 1 + 1 + 1, oB) ∈ (L + 1 + 1 + 1 + 1, oC) :: news := .tail _ cB
    refine wpAny_mono (Q := fun xv s' => Hold _) ?_ (fun _ _ x => x.get) fun _ _ x => x
    clear F N hv
    k_steps
    all_goals
      refine Hold.mk ⟨?_, _, _, rfl, by k_asm, by k_asm⟩
      clear ret B X T hdp hun hqz hfr m2 n1 n2 hoC hoB hoA hoT cB cA cT cB' cA' cT' hmx hcm hns hfq hC4 off
      (try clear Fz Nz)
      unfold cornerP
      grind
  · intro ys hys D h tk F' N' off
    have ne : ∀ r ∈ (L + 1 + 1 + 1 + 1, oC) :: news, @Ne Nat r.1 D := off1_mem off
    refine storeX_C F' (cb_drop N' led6) rfl (.head fun p hp => ?_) hoC fun h2 o2 F2 N2 d2 => ?_
    · rcases List.mem_cons.mp hp with rfl | hp
      · exact Ne.symm (ne _ (.head _))
      · exact hC4 p hp
    · exact ret D ys o2 h2 _ hys d2 F2 N2 ne
end
end Mine
namespace Mine
open PyProof.Rows.LCg
local macro_rules | `(tactic| walk_at "call ref") => Mine.sHold "Mine.hold_lv"
theorem sub_lst {w : World} {A : Around} {E : Value → Shared → Prop} {s : Shared} {h₀ : Heap} {L : Addr} {news : List (Addr × Obj)} {value slice : Expr} {D : Addr} {l : List Value} {u : Tok} {x : Value} {Q : Value → Shared → Prop} (N : News h₀ L s.heap news) (hm : (D, lst l) ∈ news) (hx : l[0]? = some x) (h : Q x s)
    (hs : autoParam (subscripted slice false (.ref D) (.int 0 u) = operate [.ref D, .int 0 u] (getItem (.ref D) (.int 0 u))) Mine.aT11) (hg : autoParam (∀ r, letTemporaryGo value (.ref D) r = pure ()) Mine.aT12) :
    wpAny (model PW w) A (PyProof.Rows.subscriptTail value slice (.ref D) (.int 0 u)) Q E s :=
  PyProof.Rows.item_list ⟨_, (N _ hm).1, rfl, _, rfl⟩ (Int.le_refl 0) (by decide) (by rw [List.getElem?_toArray]; exact hx) h hs hg
local macro_rules | `(tactic| walk_at "subscriptTail") => `(tactic| (k_here; k_dflt (refine' Mine.sub_lst ?N ?hm ?hx ?_; (case N => k_asm); (case hm => k_mem); (case hx => exact rfl); k_whole)))
section
variable {w : World} {dp un : Nat} {gd : Option (List Code)} {env : Env} {outer : List Env} {A₀ : Around} {base h₀ : Heap} {L : Addr} {m : Str → Option Value} {p : Program} {loose : List Str} {mean : ExcName → Option Value} {mg mb : Str → Option Value} {news : List (Addr × Obj)} {s : Shared} {Q E : Value → Shared → Prop}
variable {fa : Addr} {cd : Value}
/-- the corner is one section, and its value is the due one -/
theorem told3 {oA oB oC : Obj} {D c : Addr} {way : Nat} {aw ah n : Int} {ta tb t0 tn s1 s2 s3 s4 : Tok} {q : Q4} {due : Value} {Q : Flow → Shared → Prop} (Cc : Cx 20 w dp un (LE L fa cd) [] A₀ base h₀ L m p loose mean mg mb s.heap)
    (N : News h₀ L s.heap news) (cA : (L + 1 + 1, oA) ∈ news) (cB : (L + 1 + 1 + 1, oB) ∈ news) (cC : (L + 1 + 1 + 1 + 1, oC) ∈ news)
    (hoA : oA.data = .cell (some (.int aw ta))) (hoB : oB.data = .cell (some (.int ah tb))) (hoC : oC.data = .cell (some (.ref D)))
    (cD : (D, lst [.ref c]) ∈ news) (cc : (c, tupO [.int q.1 s1, .int q.2.1 s2, .int q.2.2.1 s3, .int q.2.2.2 s4]) ∈ news) (hqs : 0 ≤ q.2.2.1 ∧ q.2.2.1 < bigI ∧ 0 ≤ q.2.2.2 ∧ q.2.2.2 < bigI)
    (a0 : 0 ≤ aw) (a1 : aw ≤ q.2.2.1) (b0 : 0 ≤ ah) (b1 : ah ≤ q.2.2.2) (hv : fitV (way % 3) q.2.2.1 q.2.2.2 aw ah = some n) (hdue : due = .int n tn)
    (m1 : m (Str.ofString "way") = some (.int way t0)) (m6 : m (Str.ofString "due") = some due)
    (ret : ∀ h' tk', Fr h₀ L h' m → News h₀ L h' news → Q .next { s with heap := h', toks := tk' }) :
    wpAny (model PW w) (AR dp un gd (LE L fa cd) []) (exec (toldAt 3) (LE L fa cd)) Q E s := by
  obtain ⟨B, F, X, T, -, -, hdp, hun⟩ := Cc
  subst hdue
  have e1 : (toldAt 3) = (toldAt 3) := rfl
  (conv at e1 => rhs; whnf)
  rw [e1]
  clear e1
  unfold LE at *
  have e2 : lawScope = lawScope := rfl
  (conv at e2 => rhs; whnf)
  rw [e2]
  clear e2
  k_steps
  refine Hold.mk ?_
  rw [fmod3]
  refine law_value (by ktr_rel) N cc hqs.1 hqs.2.1 hqs.2.2.1 hqs.2.2.2 a0 a1 b0 b1 (Nat.mod_lt _ (by decide)) fun v t own h' tk' hv' F' N' hO => ?_
  obtain rfl := Option.some.inj (hv'.symm.trans hv)
  clear F N
  k_steps
  · rename @Ne Int _ _ => h9; exact absurd rfl h9
  · exact ret _ _ (by k_asm) (cb_drop N' fun _ hp => List.mem_append_right own hp)
/-- listed.append((told.x, told.y, a, b, rid)) -/
theorem told5 {r d sl : Addr} {oT oA oB : Obj} {aw ah x y : Int} {rid : Nat} {t1 t2 t3 t4 t5 ta tb : Tok} {wv hv rv : Value} {hs ks : _} {us : List Value} {nu : Nat} {Q : Flow → Shared → Prop} (Cc : Cx 20 w dp un (LE L fa cd) [] A₀ base h₀ L m p loose mean mg mb s.heap)
    (N : News h₀ L s.heap ((sl, listOf us.toArray nu) :: news)) (hsl : ∀ p ∈ news, p.1 ≠ sl) (hsz : us.length ≤ 900) (cT : (L + 1, oT) ∈ news) (cA : (L + 1 + 1, oA) ∈ news) (cB : (L + 1 + 1 + 1, oB) ∈ news)
    (hoT : oT.data = .cell (some (.ref r))) (hoA : oA.data = .cell (some (.int aw ta))) (hoB : oB.data = .cell (some (.int ah tb)))
    (n1 : (r, instObj 203 d) ∈ news) (n2 : (d, dictOf (secDict wv hv (.int x t3) (.int y t4) rv hs ks) 5) ∈ news)
    (m0 : m (Str.ofString "rid") = some (.int rid t5)) (m8 : m (Str.ofString "listed") = some (.ref sl))
    (ret : ∀ D nu' h' tk', Fr h₀ L h' m → News h₀ L h' ((sl, listOf (us ++ [Value.ref D]).toArray nu') :: (D, tupO [.int x t3, .int y t4, .int aw ta, .int ah tb, .int rid t5]) :: news) → @Ne Nat sl D → (∀ r ∈ news, @Ne Nat r.1 D) → Q .next { s with heap := h', toks := tk' }) :
    wpAny (model PW w) (AR dp un gd (LE L fa cd) []) (exec (toldAt 5) (LE L fa cd)) Q E s := by
  obtain ⟨B, F, X, T, -, -, hdp, hun⟩ := Cc
  have e1 : (toldAt 5) = (toldAt 5) := rfl
  (conv at e1 => rhs; whnf)
  rw [e1]
  clear e1
  unfold LE at *
  have e2 : lawScope = lawScope := rfl
  (conv at e2 => rhs; whnf)
  rw [e2]
  clear e2
  k_steps
  rename Fr _ _ _ _ => Fz
  rename News _ _ _ _ => Nz
  rename _ ∧ AllLt _ _ => l1
  rw [List.push_toArray] at Nz
  exact ret _ _ _ _ Fz (cb_drop Nz fun q hq => led6 q hq) (Nat.ne_of_lt l1.1) fun r hr => Nat.ne_of_lt (allLt_all l1.2 r hr)
end
end Mine
namespace Mine
open PyProof.Rows.LCg PyProof.Rows.LCt PyProof.V PySem.SeqAt
theorem hold_pc {M : Model} {A : Around} {E : Value → Shared → Prop} {s : Shared} {Q : Value → Shared → Prop} {vs : List Value} (h : Hold (wpAny M A (call (.ref 823) vs) Q E s)) : wpAny M A (call (.ref 823) vs) Q E s := h.get
theorem hold_lc {M : Model} {A : Around} {E : Value → Shared → Prop} {s : Shared} {Q : Value → Shared → Prop} {elt : Expr} {g : List Comprehension} {sc : Scope} {p : Pos} {env : Env} (h : Hold (wpAny M A (eval (.ListComp elt g sc p) env) Q E s)) : wpAny M A (eval (.ListComp elt g sc p) env) Q E s := h.get
local macro_rules | `(tactic| walk_at "call ref") => Mine.sHold "Mine.hold_pc"
local macro_rules | `(tactic| walk_at "eval ListComp") => Mine.sHold "Mine.hold_lc"
local macro_rules | `(tactic| walk_at "compareOp NotEq ref ref") => Mine.sHold "Mine.hold_ne"
local macro_rules | `(tactic| walk_at "subscriptTail") => `(tactic| (k_here; k_dflt (refine' Mine.sub_lst ?N ?hm ?hx ?_; (case N => k_asm); (case hm => k_mem); (case hx => exact rfl); k_whole)))
theorem ne4 {A : Around} {s : Shared} {E : Value → Shared → Prop} {w : World} {prog : Program} {h₀ : Heap} {L a b : Addr} {led : List (Addr × Obj)} {q r : Q4} {t1 t2 t3 t4 u1 u2 u3 u4 : Tok} {Q : Value → Shared → Prop} (N : News h₀ L s.heap led) (ha : (a, tupO [.int q.1 t1, .int q.2.1 t2, .int q.2.2.1 t3, .int q.2.2.2 t4]) ∈ led) (hb : (b, tupO [.int r.1 u1, .int r.2.1 u2, .int r.2.2.1 u3, .int r.2.2.2 u4]) ∈ led)
    (hu : A.units + 64 < cLine) (h : ∀ β, β = (!decide (q = r)) → Q (.bool β) s) : wpAny (model prog w) A (compareOp .NotEq (.ref a) (.ref b)) Q E s := by
  have ra : Reads s.heap (.ref a) (.tuple [.int q.1, .int q.2.1, .int q.2.2.1, .int q.2.2.2]) [] := Reads.tuple (N _ ha).1 rfl rfl (.cons (.int _ _) (.cons (.int _ _) (.cons (.int _ _) (.cons (.int _ _) .nil))))
  have rb : Reads s.heap (.ref b) (.tuple [.int r.1, .int r.2.1, .int r.2.2.1, .int r.2.2.2]) [] := Reads.tuple (N _ hb).1 rfl rfl (.cons (.int _ _) (.cons (.int _ _) (.cons (.int _ _) (.cons (.int _ _) .nil))))
  refine ne_dataH_same ra rb (by with_unfolding_all rfl) (by with_unfolding_all rfl) hu (by simp [noMix, noMixAll]) (h _ ?_)
  obtain ⟨q1, q2, q3, q4⟩ := q
  obtain ⟨r1, r2, r3, r4⟩ := r
  simp [PySem.Spec.same, PySem.Spec.sameAll, BEq.beq]
section
variable {w : World} {dp un : Nat} {gd : Option (List Code)} {env : Env} {outer : List Env} {A₀ : Around} {base h₀ : Heap} {L : Addr} {m : Str → Option Value} {p : Program} {loose : List Str} {mean : ExcName → Option Value} {mg mb : Str → Option Value} {news : List (Addr × Obj)} {s : Shared} {Q E : Value → Shared → Prop}
variable {fa : Addr} {cd : Value}
/-- free = [the others] + _law_pieces(way // 3, corner[0], a, b) -/
theorem told4 {oA oB oC : Obj} {D c : Addr} {way : Nat} {aw ah : Int} {ta tb t0 s1 s2 s3 s4 : Tok} {q : Q4} {fr : Addr} {vs : List Value} {nf : Nat} {qs : List Q4} {Q : Flow → Shared → Prop} (Cc : Cx 20 w dp un (LE L fa cd) [] A₀ base h₀ L m p loose mean mg mb s.heap)
    (N : News h₀ L s.heap news) (cA : (L + 1 + 1, oA) ∈ news) (cB : (L + 1 + 1 + 1, oB) ∈ news) (cC : (L + 1 + 1 + 1 + 1, oC) ∈ news)
    (hoA : oA.data = .cell (some (.int aw ta))) (hoB : oB.data = .cell (some (.int ah tb))) (hoC : oC.data = .cell (some (.ref D)))
    (cD : (D, lst [.ref c]) ∈ news) (cc : (c, tupO [.int q.1 s1, .int q.2.1 s2, .int q.2.2.1 s3, .int q.2.2.2 s4]) ∈ news) (hqs : 0 ≤ q.2.2.1 ∧ q.2.2.1 < bigI ∧ 0 ≤ q.2.2.2 ∧ q.2.2.2 < bigI)
    (a0 : 0 < aw) (a1 : aw ≤ q.2.2.1) (b0 : 0 < ah) (b1 : ah ≤ q.2.2.2) (hw18 : way < 18)
    (m1 : m (Str.ofString "way") = some (.int way t0)) (m2 : m (Str.ofString "free") = some (.ref fr)) (hfr : (fr, listOf vs.toArray nf) ∈ news) (hfq : ListR (TupAt4 news) vs qs) (hqz : qs.length ≤ 900)
    (ret : ∀ fr' vs' nf' own h' tk', ListR (TupAt4 (own ++ news)) vs' (qs.filter (fun o => !decide (o = q)) ++ lawCut (way / 3) q.1 q.2.1 q.2.2.1 q.2.2.2 aw ah) → (fr', listOf vs'.toArray nf') ∈ own → Fr h₀ L h' (fun y => if y = Str.ofString "free" then some (.ref fr') else m y) → News h₀ L h' (own ++ news) → Own news own → Q .next { s with heap := h', toks := tk' }) :
    wpAny (model PW w) (AR dp un gd (LE L fa cd) []) (exec (toldAt 4) (LE L fa cd)) Q E s := by
  obtain ⟨B, F, X, T, -, -, hdp, hun⟩ := Cc
  have e1 : (toldAt 4) = (toldAt 4) := rfl
  (conv at e1 => rhs; whnf)
  rw [e1]
  clear e1
  unfold LE at *
  have e2 : lawScope = lawScope := rfl
  (conv at e2 => rhs; whnf)
  rw [e2]
  clear e2
  k_steps
  refine Hold.mk ?_
  refine ListComp_T (cl := [(Str.ofString "corner", L + 1 + 1 + 1 + 1)]) F (by with_unfolding_all rfl) (by decide) rfl (by decide) rfl ?_ (fun _ => by with_unfolding_all rfl)
  refine wpAny_Name (wpAny_loadName_local rfl rfl F.ns m2 ?_) (by decide)
  refine CompSrcT.ledger rfl F N hfr ?_ fun g => filt_rest (R := TupAt4 news) (p := fun o => !decide (o = q)) (qs := qs) rfl rfl (by decide) (.inr ⟨_, hfr, rfl, _, rfl⟩) hfq ?_ ?_
  · rw [List.size_toArray, hfq.length]; exact Nat.le_trans hqz (by decide)
  · intro v o ys I oI C oC' D' mm h tk E' hv hr hqm hns hmx Fz Nz off
    obtain ⟨ca, u1, u2, u3, u4, rfl, hcm⟩ := hr
    refine wpAny_mono (Q := fun xv s' => Hold _) ?_ (fun _ _ x => x.get) fun _ _ x => x
    clear F N hv
    k_steps
    refine Hold.mk ?_
    refine ne4 Nz (by k_mem) (by k_mem) (by k_units) fun β hβ => ?_
    k_steps
    exact Hold.mk ⟨hβ, _, _, rfl, by k_asm, by k_asm⟩
  · intro ys hys D' h tk F' N' off
    clear F N
    k_steps
    refine Hold.mk ?_
    rw [fdiv3]
    refine law_pieces (k := way / 3) (by ktr_rel) N' (.tail _ cc) hqs.1 hqs.2.1 hqs.2.2.1 hqs.2.2.2 a0 a1 b0 b1 (by omega) fun D2 ys2 own2 h2 tk2 F2 N2 hl2 hO2 => ?_
    clear F' N'
    refine Hold.get (Hold.mk (add_lists (vs := ys) (ws := ys2) F2 N2 ⟨_, (N2 _ (.tail _ (List.mem_append_right own2 (.head _)))).1, rfl, _, rfl⟩ ⟨_, (N2 _ (.head _)).1, rfl, _, rfl⟩ (fun h3 F3 N3 => ?_) ?_))
    · have hlt : ∀ p ∈ (D2, lst ys2) :: (own2 ++ (D', lst ys) :: news), @Ne Nat p.1 h2.objs.size := fun p hp => Nat.ne_of_lt (Heap.lt_size (N2 p hp).1)
      have hN : ∀ p ∈ news, p ∈ (D2, lst ys2) :: (own2 ++ (D', lst ys) :: news) := fun p hp => .tail _ (List.mem_append_right own2 (.tail _ hp))
      generalize h2.objs.size = Z at hlt N3 ⊢
      clear F2 N2
      k_steps
      refine ret Z (ys ++ ys2) 0 ((Z, listOf (ys ++ ys2).toArray 0) :: (D2, lst ys2) :: own2) _ _ ?_ (.head _) (by k_asm) (cb_drop (by k_asm) ?_) ?_
      · exact (hys.imp fun _ _ x => x.imp fun p hp => .tail _ (.tail _ (List.mem_append_right own2 hp))).append (hl2.imp fun _ _ x => x.imp fun p hp => .tail _ (.tail _ (List.mem_append_left _ hp)))
      · intro q hq
        simp only [List.mem_cons, List.mem_append, List.cons_append] at hq ⊢
        grind
      · exact own_cons (fun r hr => hlt r (hN r hr)) (hO2.sub fun r hr => .tail _ hr)
    · have := hys.length
      have := hl2.length
      have h1 : (qs.filter (fun o => !decide (o = q))).length ≤ 900 := Nat.le_trans (List.length_filter_le _ _) hqz
      have h2 : (lawCut (way / 3) q.1 q.2.1 q.2.2.1 q.2.2.2 aw ah).length ≤ 2 := by
        unfold lawCut
        refine Nat.le_trans (List.length_filter_le _ _) ?_
        split <;> exact Nat.le_refl 2
      have h3 : 1000 ≤ sizeLine := by decide
      omega
end
end Mine
namespace Mine
open PyProof.Rows.LCg
theorem turnBody_eq : turnBody = [turnAt 0, turnAt 1, turnAt 2, turnAt 3, turnAt 4, turnAt 5] := by kernel_rfl
theorem toldBody_eq : toldBody = [toldAt 0, toldAt 1, toldAt 2, toldAt 3, toldAt 4, toldAt 5] := by kernel_rfl
noncomputable def toldTest : Expr := match turnAt 4 with | .If t _ _ _ => t | _ => .Constant .none 0 ⟨0, 0, 0, 0⟩
noncomputable def toldPos : Pos := match turnAt 4 with | .If _ _ _ p => p | _ => ⟨0, 0, 0, 0⟩
theorem turn4_eq : turnAt 4 = .If toldTest toldBody [] toldPos := by kernel_rfl
theorem reord {h₀ h : Heap} {L : Addr} {l l' : List (Addr × Obj)} (N : News h₀ L h l) (hs : ∀ q ∈ l', q ∈ l) : News h₀ L h l' := cb_drop N hs
theorem rA1 {α : Type} {sl T A B C : α} {nw : List α} : ∀ q ∈ T :: A :: B :: sl :: C :: nw, q ∈ sl :: T :: A :: B :: C :: nw := perm_of [[sl], [T], [A], [B], [C]] [1, 2, 3, 0, 4] nw
theorem rA2 {α : Type} {sl T A B C : α} {nw : List α} : ∀ q ∈ C :: T :: A :: B :: sl :: nw, q ∈ T :: A :: B :: sl :: C :: nw := perm_of [[T], [A], [B], [sl], [C]] [4, 0, 1, 2, 3] nw
theorem rA3 {α : Type} {sl T A B C D : α} {own nw : List α} : ∀ q ∈ sl :: T :: A :: B :: C :: (own ++ D :: nw), q ∈ own ++ (C :: D :: T :: A :: B :: sl :: nw) := perm_of [own, [C], [D], [T], [A], [B], [sl]] [6, 3, 4, 5, 1, 0, 2] nw
theorem rA4 {α : Type} {sl T A B C D Z : α} {own nw : List α} : ∀ q ∈ sl :: T :: A :: B :: C :: ((Z :: (own ++ [D])) ++ nw), q ∈ sl :: Z :: T :: A :: B :: C :: (own ++ D :: nw) := by
  intro q hq; simp only [List.mem_cons, List.mem_append, List.not_mem_nil, or_false, List.cons_append, List.append_assoc] at hq ⊢; grind
theorem TupAt4.pick {led led' : List (Addr × Obj)} {v : Value} {q : Q4} (h : TupAt4 led v q) (hs : ∀ z ∈ led, z ∈ led' ∨ ∀ l, z.2 ≠ tupO l) : TupAt4 led' v q := by
  obtain ⟨a, t1, t2, t3, t4, e, hm⟩ := h
  rcases hs _ hm with h | h
  · exact ⟨a, t1, t2, t3, t4, e, h⟩
  · exact absurd rfl (h _)
theorem cell_ne {o : Obj} {v : Option Value} {l : List Value} (h : o.data = .cell v) (e : o = tupO l) : False := by
  rw [e] at h
  exact nomatch h
theorem list_ne {its : Array Value} {n : Nat} {l : List Value} (e : listOf its n = tupO l) : False := by
  have h : Value.type "list" = Value.type "tuple" := congrArg Obj.cls e
  injection h with h
  exact absurd h (by decide)
section
variable {w : World} {dp un : Nat} {gd : Option (List Code)} {env : Env} {outer : List Env} {A₀ : Around} {base h₀ : Heap} {L : Addr} {m : Str → Option Value} {p : Program} {loose : List Str} {mean : ExcName → Option Value} {mg mb : Str → Option Value} {news : List (Addr × Obj)} {s : Shared} {Q E : Value → Shared → Prop}
variable {fa : Addr} {cd : Value}
/-- told is not None: the free sections and the listed rows are told anew -/
theorem turn4S {r d sl : Addr} {oT oA oB oC : Obj} {va vb vc : Option Value} {way rid : Nat} {wi hi n W H : Int} {fl rotb : Bool} {t0 t1 t2 t3 t4 t4' t5 t6 t7 tn : Tok} {hs ks : _} {fr : Addr} {vs us : List Value} {nf nu j : Nat} {qs : List Q4} {q : Q4} {Q : Flow → Shared → Prop}
    (Cc : Cx 20 w dp un (LE L fa cd) [] A₀ base h₀ L m p loose mean mg mb s.heap)
    (N : News h₀ L s.heap ((sl, listOf us.toArray nu) :: (L + 1, oT) :: (L + 1 + 1, oA) :: (L + 1 + 1 + 1, oB) :: (L + 1 + 1 + 1 + 1, oC) :: news))
    (hoff : ∀ p ∈ news, @Ne Nat p.1 sl ∧ @Ne Nat p.1 (L + 1) ∧ @Ne Nat p.1 (L + 1 + 1) ∧ @Ne Nat p.1 (L + 1 + 1 + 1) ∧ @Ne Nat p.1 (L + 1 + 1 + 1 + 1)) (hsl : @LT.lt Nat _ (L + 1 + 1 + 1 + 1) sl)
    (hoT : oT.data = .cell (some (.ref r))) (hoA : oA.data = .cell va) (hoB : oB.data = .cell vb) (hoC : oC.data = .cell vc) (n1 : (r, instObj 203 d) ∈ news)
    (n2 : (d, dictOf (secDict (.int (if fl then hi else wi) t1) (.int (if fl then wi else hi) t2) (.int q.1 t3) (.int q.2.1 t4') (.int rid t4) hs ks) 5) ∈ news)
    (hS : Secs W H qs) (hWb : W < bigI) (hHb : H < bigI) (hj : qs[j]? = some q) (hv : (if fl then fitV (way % 3) q.2.2.1 q.2.2.2 hi wi else fitV (way % 3) q.2.2.1 q.2.2.2 wi hi) = some n) (hw18 : way < 18) (hfl : fl = true → rotb = true) (hw : 0 < wi) (hh : 0 < hi)
    (m0 : m (Str.ofString "rid") = some (.int rid t7)) (m1 : m (Str.ofString "way") = some (.int way t0)) (m2 : m (Str.ofString "free") = some (.ref fr)) (m3 : m (Str.ofString "w") = some (.int wi t5)) (m4 : m (Str.ofString "h") = some (.int hi t6)) (m5 : m (Str.ofString "rot") = some (.bool rotb))
    (m6 : m (Str.ofString "due") = some (.int n tn)) (m8 : m (Str.ofString "listed") = some (.ref sl))
    (hfr : (fr, listOf vs.toArray nf) ∈ news) (hfq : ListR (TupAt4 news) vs qs) (hqz : qs.length ≤ 900) (hsz : us.length ≤ 900)
    (ret : ∀ D nu' oA' oB' oC' va' vb' vc' u1 u2 u3 u4 u5 fr' vs' nf' own h' tk', oA'.data = .cell va' → oB'.data = .cell vb' → oC'.data = .cell vc' → (fr', listOf vs'.toArray nf') ∈ own → ListR (TupAt4 (own ++ news)) vs' (qs.eraseIdx j ++ lawCut (way / 3) q.1 q.2.1 q.2.2.1 q.2.2.2 (if fl then hi else wi) (if fl then wi else hi)) →
      (D, tupO [.int q.1 u1, .int q.2.1 u2, .int (if fl then hi else wi) u3, .int (if fl then wi else hi) u4, .int rid u5]) ∈ own →
      Fr h₀ L h' (fun y => if y = Str.ofString "free" then some (.ref fr') else m y) →
      News h₀ L h' ((sl, listOf (us ++ [Value.ref D]).toArray nu') :: (L + 1, oT) :: (L + 1 + 1, oA') :: (L + 1 + 1 + 1, oB') :: (L + 1 + 1 + 1 + 1, oC') :: (own ++ news)) →
      Own ((sl, listOf us.toArray nu) :: (L + 1, oT) :: (L + 1 + 1, oA) :: (L + 1 + 1 + 1, oB) :: (L + 1 + 1 + 1 + 1, oC) :: news) own → Q .next { s with heap := h', toks := tk' }) :
    wpAny (model PW w) (AR dp un gd (LE L fa cd) []) (exec (turnAt 4) (LE L fa cd)) Q E s := by
  obtain ⟨B, F, X, T, -, -, hdp, hun⟩ := Cc
  rw [turn4_eq]
  refine wpAny_If ?_
  refine wpAny_mono (Q := fun ok s' => ok = true ∧ ∃ h' tk', s' = { s with heap := h', toks := tk' } ∧ Fr h₀ L h' m ∧ News h₀ L h' ((sl, listOf us.toArray nu) :: (L + 1, oT) :: (L + 1 + 1, oA) :: (L + 1 + 1 + 1, oB) :: (L + 1 + 1 + 1 + 1, oC) :: news)) ?_ (fun ok s' hok => ?_) fun _ _ x => x
  · refine wpAny_mono (Q := fun ok s' => Hold _) ?_ (fun _ _ x => x.get) fun _ _ x => x
    have e1 : toldTest = toldTest := rfl
    (conv at e1 => rhs; whnf)
    rw [e1]
    clear e1
    unfold LE at *
    have e2 : lawScope = lawScope := rfl
    (conv at e2 => rhs; whnf)
    rw [e2]
    clear e2
    k_steps
    exact Hold.mk ⟨rfl, _, _, rfl, by k_asm, by k_asm⟩
  obtain ⟨rfl, h₁, tk₁, rfl, F₁, N₁⟩ := hok
  rw [if_pos rfl, toldBody_eq]
  have hcell : (oT.data = .cell (some (.ref r))) := hoT
  -- the turn's sides
  have hv' : fitV (way % 3) q.2.2.1 q.2.2.2 (if fl then hi else wi) (if fl then wi else hi) = some n := by cases fl <;> exact hv
  have hfit := fitV_some hv'
  have a0 : 0 < (if fl then hi else wi) := by cases fl <;> assumption
  have b0 : 0 < (if fl then wi else hi) := by cases fl <;> assumption
  have hq := hS.size q (List.mem_of_getElem? hj)
  have hqb : 0 ≤ q.2.2.1 ∧ q.2.2.1 < bigI ∧ 0 ≤ q.2.2.2 ∧ q.2.2.2 < bigI := ⟨by omega, by omega, by omega, by omega⟩
  have hcor := hS.corner hj hfit.1 hfit.2
  have hoth := hS.others_left hj
  refine wpAny_execs_cons ?_
  refine told0 (news := (sl, listOf us.toArray nu) :: (L + 1 + 1 + 1 + 1, oC) :: news) ⟨B, F₁, X, T, rfl, rfl, by k_room, by k_units⟩ (reord N₁ rA1) ?_ ?_ hoT hoA hoB (.tail _ (.tail _ n1)) (.tail _ (.tail _ n2)) fun oA' oB' h' tk' dA dB F2 N2 => ?_
  · intro p hp
    rcases List.mem_cons.mp hp with rfl | hp
    · show @Ne Nat _ _; omega
    rcases List.mem_cons.mp hp with rfl | hp
    · show @Ne Nat _ _; omega
    · exact (hoff p hp).2.2.1
  · intro p hp
    rcases List.mem_cons.mp hp with rfl | hp
    · show @Ne Nat _ _; omega
    rcases List.mem_cons.mp hp with rfl | hp
    · show @Ne Nat _ _; omega
    · exact (hoff p hp).2.2.2.1
  refine wpAny_execs_cons ?_
  refine told1 ⟨B, F2, X, T, rfl, rfl, by k_room, by k_units⟩ N2 (.head _) (.tail _ (.head _)) (.tail _ (.tail _ (.head _))) hoT dA dB (.tail _ (.tail _ (.tail _ (.tail _ (.tail _ n1))))) (.tail _ (.tail _ (.tail _ (.tail _ (.tail _ n2))))) m0 m3 m4 m5 hfl fun h3 tk3 F3 N3 => ?_
  refine wpAny_execs_cons ?_
  refine told2 (q0 := q) (news := (L + 1, oT) :: (L + 1 + 1, oA') :: (L + 1 + 1 + 1, oB') :: (sl, listOf us.toArray nu) :: news) ⟨B, F3, X, T, rfl, rfl, by k_room, by k_units⟩ (reord N3 rA2) ?_ (.head _) (.tail _ (.head _)) (.tail _ (.tail _ (.head _))) hoT dA dB hoC (.tail _ (.tail _ (.tail _ (.tail _ n1)))) (.tail _ (.tail _ (.tail _ (.tail _ n2)))) m2 (.tail _ (.tail _ (.tail _ (.tail _ hfr))))
    (hfq.imp fun _ _ x => x.imp fun p hp => .tail _ (.tail _ (.tail _ (.tail _ hp)))) hqz fun D ys oC' h4 tk4 hys dC F4 N4 hD => ?_
  · intro p hp
    rcases List.mem_cons.mp hp with rfl | hp
    · show @Ne Nat _ _; omega
    rcases List.mem_cons.mp hp with rfl | hp
    · show @Ne Nat _ _; omega
    rcases List.mem_cons.mp hp with rfl | hp
    · show @Ne Nat _ _; omega
    rcases List.mem_cons.mp hp with rfl | hp
    · show @Ne Nat _ _; omega
    · exact (hoff p hp).2.2.2.2
  rw [hcor] at hys
  obtain ⟨c, s1, s2, s3, s4, rfl, hcm⟩ : ∃ c s1 s2 s3 s4, ys = [.ref c] ∧ (c, tupO [.int q.1 s1, .int q.2.1 s2, .int q.2.2.1 s3, .int q.2.2.2 s4]) ∈ (L + 1, oT) :: (L + 1 + 1, oA') :: (L + 1 + 1 + 1, oB') :: (sl, listOf us.toArray nu) :: news := by
    match ys, hys with
    | [v], ⟨⟨c, s1, s2, s3, s4, e, hm⟩, _⟩ => exact ⟨c, s1, s2, s3, s4, by rw [e], hm⟩
    | [], x => exact x.elim
    | _ :: _ :: _, ⟨_, x⟩ => exact x.elim
  refine wpAny_execs_cons ?_
  refine told3 (q := q) ⟨B, F4, X, T, rfl, rfl, by k_room, by k_units⟩ N4 (.tail _ (.tail _ (.tail _ (.head _)))) (.tail _ (.tail _ (.tail _ (.tail _ (.head _))))) (.head _) dA dB dC (.tail _ (.head _)) (.tail _ (.tail _ hcm)) hqb (Int.le_of_lt a0) hfit.1 (Int.le_of_lt b0) hfit.2 hv' rfl m1 m6 fun h5 tk5 F5 N5 => ?_
  refine wpAny_execs_cons ?_
  refine told4 (q := q) (qs := qs) ⟨B, F5, X, T, rfl, rfl, by k_room, by k_units⟩ N5 (.tail _ (.tail _ (.tail _ (.head _)))) (.tail _ (.tail _ (.tail _ (.tail _ (.head _))))) (.head _) dA dB dC (.tail _ (.head _)) (.tail _ (.tail _ hcm)) hqb a0 hfit.1 b0 hfit.2 hw18 m1 m2 (.tail _ (.tail _ (.tail _ (.tail _ (.tail _ (.tail _ hfr))))))
    (hfq.imp fun _ _ x => x.imp fun p hp => .tail _ (.tail _ (.tail _ (.tail _ (.tail _ (.tail _ hp)))))) hqz fun fr' vs' nf' own h6 tk6 hvs hfr' F6 N6 hO => ?_
  rw [hoth] at hvs
  have hO' : ∀ z ∈ own, ∀ p ∈ news, @Ne Nat p.1 z.1 := fun z hz p hp => hO z hz p (.tail _ (.tail _ (.tail _ (.tail _ (.tail _ (.tail _ hp))))))
  have hOs : ∀ z ∈ own, @Ne Nat sl z.1 := fun z hz => hO z hz (sl, listOf us.toArray nu) (.tail _ (.tail _ (.tail _ (.tail _ (.tail _ (.head _))))))
  refine wpAny_execs_cons ?_
  refine told5 (t1 := t1) (t2 := t2) (news := (L + 1, oT) :: (L + 1 + 1, oA') :: (L + 1 + 1 + 1, oB') :: (L + 1 + 1 + 1 + 1, oC') :: (own ++ (D, lst [.ref c]) :: news)) ⟨B, F6, X, T, rfl, rfl, by k_room, by k_units⟩ (reord N6 rA3) ?_ hsz (.head _) (.tail _ (.head _)) (.tail _ (.tail _ (.head _))) hoT dA dB (.tail _ (.tail _ (.tail _ (.tail _ (List.mem_append_right _ (.tail _ n1)))))) (.tail _ (.tail _ (.tail _ (.tail _ (List.mem_append_right _ (.tail _ n2))))))
    ((if_neg (by decide)).trans m0) ((if_neg (by decide)).trans m8) fun T' nu' h7 tk7 F7 N7 hsT hT' => ?_
  · intro p hp
    rcases List.mem_cons.mp hp with rfl | hp
    · show @Ne Nat _ _; omega
    rcases List.mem_cons.mp hp with rfl | hp
    · show @Ne Nat _ _; omega
    rcases List.mem_cons.mp hp with rfl | hp
    · show @Ne Nat _ _; omega
    rcases List.mem_cons.mp hp with rfl | hp
    · show @Ne Nat _ _; omega
    rcases List.mem_append.mp hp with hp | hp
    · exact Ne.symm (hOs p hp)
    rcases List.mem_cons.mp hp with rfl | hp
    · exact Ne.symm (hD (sl, listOf us.toArray nu) (.tail _ (.tail _ (.tail _ (.tail _ (.head _))))))
    · exact (hoff p hp).1
  refine wpAny_execs_nil ?_
  refine ret T' nu' oA' oB' oC' _ _ _ _ _ _ _ _ fr' vs' nf' ((T', tupO [.int q.1 t3, .int q.2.1 t4', .int (if fl then hi else wi) t1, .int (if fl then wi else hi) t2, .int rid t7]) :: (own ++ [(D, lst [.ref c])])) h7 tk7 dA dB dC (.tail _ (List.mem_append_left _ hfr')) ?_ (.head _) F7 (reord N7 rA4) ?_
  · refine hvs.imp fun _ _ x => x.pick fun z hz => ?_
    rcases List.mem_append.mp hz with hz | hz
    · exact .inl (List.mem_append_left _ (.tail _ (List.mem_append_left _ hz)))
    rcases List.mem_cons.mp hz with rfl | hz
    · exact .inr fun l e => cell_ne dC e
    rcases List.mem_cons.mp hz with rfl | hz
    · exact .inl (List.mem_append_left _ (.tail _ (List.mem_append_right _ (.head _))))
    rcases List.mem_cons.mp hz with rfl | hz
    · exact .inr fun l e => cell_ne hoT e
    rcases List.mem_cons.mp hz with rfl | hz
    · exact .inr fun l e => cell_ne dA e
    rcases List.mem_cons.mp hz with rfl | hz
    · exact .inr fun l e => cell_ne dB e
    rcases List.mem_cons.mp hz with rfl | hz
    · exact .inr fun l e => list_ne e
    · exact .inl (List.mem_append_right _ hz)
  · have key : ∀ Z : Addr, @Ne Nat sl Z → @Ne Nat (L + 1) Z → @Ne Nat (L + 1 + 1) Z → @Ne Nat (L + 1 + 1 + 1) Z → @Ne Nat (L + 1 + 1 + 1 + 1) Z → (∀ p ∈ news, @Ne Nat p.1 Z) → ∀ r ∈ (sl, listOf us.toArray nu) :: (L + 1, oT) :: (L + 1 + 1, oA) :: (L + 1 + 1 + 1, oB) :: (L + 1 + 1 + 1 + 1, oC) :: news, @Ne Nat r.1 Z := fun Z h1 h2 h3 h4 h5 h6 r hr => by
      rcases List.mem_cons.mp hr with rfl | hr
      · exact h1
      rcases List.mem_cons.mp hr with rfl | hr
      · exact h2
      rcases List.mem_cons.mp hr with rfl | hr
      · exact h3
      rcases List.mem_cons.mp hr with rfl | hr
      · exact h4
      rcases List.mem_cons.mp hr with rfl | hr
      · exact h5
      · exact h6 r hr
    refine own_cons (key T' hsT (hT' _ (.head _)) (hT' _ (.tail _ (.head _))) (hT' _ (.tail _ (.tail _ (.head _)))) (hT' _ (.tail _ (.tail _ (.tail _ (.head _))))) fun p hp => hT' p (.tail _ (.tail _ (.tail _ (.tail _ (List.mem_append_right _ (.tail _ hp))))))) (own_app (fun z hz => ?_) (own_cons ?_ own_nil))
    · exact key z.1 (hOs z hz) (hO z hz _ (.tail _ (.tail _ (.head _)))) (hO z hz _ (.tail _ (.tail _ (.tail _ (.head _))))) (hO z hz _ (.tail _ (.tail _ (.tail _ (.tail _ (.head _)))))) (hO z hz _ (.head _)) (hO' z hz)
    · exact key D (hD _ (.tail _ (.tail _ (.tail _ (.tail _ (.head _)))))) (hD _ (.tail _ (.head _))) (hD _ (.tail _ (.tail _ (.head _)))) (hD _ (.tail _ (.tail _ (.tail _ (.head _))))) (hD _ (.head _)) fun p hp => hD p (.tail _ (.tail _ (.tail _ (.tail _ (.tail _ hp)))))
end
end Mine
namespace Mine
theorem TabOk.pick {ps : Array Value} {led led' : List (Addr × Obj)} (h : TabOk ps led) (hs : ∀ z ∈ led, z ∈ led' ∨ ∀ vs, z.2.data ≠ .fields vs) : TabOk ps led' :=
  ⟨h.ok, h.lam.imp id fun ⟨c', oc, vs, t, a, b, c, d⟩ => ⟨c', oc, vs, t, a, (hs _ b).resolve_right fun e => e vs c, c, d⟩⟩
theorem SecsIn.eraseIdx {led : List (Addr × Obj)} : ∀ {vs : List Value} {qs : List Q4} (j : Nat), SecsIn led vs qs → SecsIn led (vs.eraseIdx j) (qs.eraseIdx j)
  | [], [], _, _ => trivial
  | _ :: _, _ :: _, 0, h => h.2
  | _ :: _, _ :: _, j + 1, h => ⟨h.1, SecsIn.eraseIdx j h.2⟩
  | [], _ :: _, _, h => h.elim
  | _ :: _, [], _, h => h.elim
theorem cut_len {r : Nat} {x y W H w h : Int} : (lawCut r x y W H w h).length ≤ 2 := by
  unfold lawCut
  refine Nat.le_trans (List.length_filter_le _ _) ?_
  split <;> exact Nat.le_refl 2
/-- the changing places are apart -/
structure Ord (L ls lr sl : Addr) : Prop where
  s_ls : @Ne Nat sl ls
  c1_ls : @Ne Nat (L + 1) ls
  c2_ls : @Ne Nat (L + 1 + 1) ls
  c3_ls : @Ne Nat (L + 1 + 1 + 1) ls
  c4_ls : @Ne Nat (L + 1 + 1 + 1 + 1) ls
  s_360 : @Ne Nat sl 360
  c1_360 : @Ne Nat (L + 1) 360
  c2_360 : @Ne Nat (L + 1 + 1) 360
  c3_360 : @Ne Nat (L + 1 + 1 + 1) 360
  c4_360 : @Ne Nat (L + 1 + 1 + 1 + 1) 360
  s_lr : @Ne Nat sl lr
  c1_lr : @Ne Nat (L + 1) lr
  c2_lr : @Ne Nat (L + 1 + 1) lr
  c3_lr : @Ne Nat (L + 1 + 1 + 1) lr
  c4_lr : @Ne Nat (L + 1 + 1 + 1 + 1) lr
  lr_ls : @Ne Nat lr ls
  ls_360 : @Ne Nat ls 360
  lr_360 : @Ne Nat lr 360
  s_c1 : @Ne Nat sl (L + 1)
  c2_c1 : @Ne Nat (L + 1 + 1) (L + 1)
  c3_c1 : @Ne Nat (L + 1 + 1 + 1) (L + 1)
  c4_c1 : @Ne Nat (L + 1 + 1 + 1 + 1) (L + 1)
theorem Ord.of {L ls lr sl : Addr} (h360 : @LT.lt Nat _ 360 L) (hlr : @LT.lt Nat _ (L + 1 + 1 + 1 + 1) lr) (hls : @LT.lt Nat _ lr ls) (hsl : @LT.lt Nat _ ls sl) : Ord L ls lr sl :=
  have a3 : @LT.lt Nat _ (L + 1 + 1 + 1) lr := Nat.lt_trans (Nat.lt_succ_self _) hlr
  have a2 : @LT.lt Nat _ (L + 1 + 1) lr := Nat.lt_trans (Nat.lt_succ_self _) a3
  have a1 : @LT.lt Nat _ (L + 1) lr := Nat.lt_trans (Nat.lt_succ_self _) a2
  have b1 : @LT.lt Nat _ 360 (L + 1) := Nat.lt_succ_of_lt h360
  have b2 : @LT.lt Nat _ 360 (L + 1 + 1) := Nat.lt_succ_of_lt b1
  have b3 : @LT.lt Nat _ 360 (L + 1 + 1 + 1) := Nat.lt_succ_of_lt b2
  have b4 : @LT.lt Nat _ 360 (L + 1 + 1 + 1 + 1) := Nat.lt_succ_of_lt b3
  have b5 : @LT.lt Nat _ 360 lr := Nat.lt_trans b4 hlr
  have b6 : @LT.lt Nat _ 360 ls := Nat.lt_trans b5 hls
  have d2 : @LT.lt Nat _ (L + 1) (L + 1 + 1) := Nat.lt_succ_self _
  have d3 : @LT.lt Nat _ (L + 1) (L + 1 + 1 + 1) := Nat.lt_succ_of_lt d2
  ⟨Nat.ne_of_gt hsl, Nat.ne_of_lt (Nat.lt_trans a1 hls), Nat.ne_of_lt (Nat.lt_trans a2 hls), Nat.ne_of_lt (Nat.lt_trans a3 hls), Nat.ne_of_lt (Nat.lt_trans hlr hls),
    Nat.ne_of_gt (Nat.lt_trans b6 hsl), Nat.ne_of_gt b1, Nat.ne_of_gt b2, Nat.ne_of_gt b3, Nat.ne_of_gt b4,
    Nat.ne_of_gt (Nat.lt_trans hls hsl), Nat.ne_of_lt a1, Nat.ne_of_lt a2, Nat.ne_of_lt a3, Nat.ne_of_lt hlr, Nat.ne_of_lt hls, Nat.ne_of_gt b6, Nat.ne_of_gt b5,
    Nat.ne_of_gt (Nat.lt_trans a1 (Nat.lt_trans hls hsl)), Nat.ne_of_gt d2, Nat.ne_of_gt d3, Nat.ne_of_gt (Nat.lt_succ_of_lt d3)⟩
theorem off_lo {L ls lr sl n : Addr} (O : Ord L ls lr sl) (h360 : @LT.lt Nat _ 360 L) (h4 : @LT.lt Nat _ (L + 1 + 1 + 1 + 1) n) (h1 : @LT.lt Nat _ n lr) (h2 : @LT.lt Nat _ lr ls) (h3 : @LT.lt Nat _ ls sl) :
    @Ne Nat n ls ∧ @Ne Nat n 360 ∧ @Ne Nat n lr ∧ @Ne Nat n sl ∧ @Ne Nat n (L + 1) ∧ @Ne Nat n (L + 1 + 1) ∧ @Ne Nat n (L + 1 + 1 + 1) ∧ @Ne Nat n (L + 1 + 1 + 1 + 1) :=
  have k3 : @LT.lt Nat _ (L + 1 + 1 + 1) n := Nat.lt_trans (Nat.lt_succ_self _) h4
  have k2 : @LT.lt Nat _ (L + 1 + 1) n := Nat.lt_trans (Nat.lt_succ_self _) k3
  have k1 : @LT.lt Nat _ (L + 1) n := Nat.lt_trans (Nat.lt_succ_self _) k2
  ⟨Nat.ne_of_lt (Nat.lt_trans h1 h2), Nat.ne_of_gt (Nat.lt_trans (Nat.lt_succ_of_lt h360) k1), Nat.ne_of_lt h1, Nat.ne_of_lt (Nat.lt_trans h1 (Nat.lt_trans h2 h3)), Nat.ne_of_gt k1, Nat.ne_of_gt k2, Nat.ne_of_gt k3, Nat.ne_of_gt h4⟩
theorem off_hi {L ls lr sl n : Addr} (h360 : @LT.lt Nat _ 360 L) (h4 : @LT.lt Nat _ (L + 1 + 1 + 1 + 1) lr) (h2 : @LT.lt Nat _ lr ls) (h1 : @LT.lt Nat _ ls n) (h3 : @LT.lt Nat _ n sl) :
    @Ne Nat n ls ∧ @Ne Nat n 360 ∧ @Ne Nat n lr ∧ @Ne Nat n sl ∧ @Ne Nat n (L + 1) ∧ @Ne Nat n (L + 1 + 1) ∧ @Ne Nat n (L + 1 + 1 + 1) ∧ @Ne Nat n (L + 1 + 1 + 1 + 1) :=
  have k4 : @LT.lt Nat _ (L + 1 + 1 + 1 + 1) n := Nat.lt_trans h4 (Nat.lt_trans h2 h1)
  have k3 : @LT.lt Nat _ (L + 1 + 1 + 1) n := Nat.lt_trans (Nat.lt_succ_self _) k4
  have k2 : @LT.lt Nat _ (L + 1 + 1) n := Nat.lt_trans (Nat.lt_succ_self _) k3
  have k1 : @LT.lt Nat _ (L + 1) n := Nat.lt_trans (Nat.lt_succ_self _) k2
  ⟨Nat.ne_of_gt h1, Nat.ne_of_gt (Nat.lt_trans (Nat.lt_succ_of_lt h360) k1), Nat.ne_of_gt (Nat.lt_trans h2 h1), Nat.ne_of_lt h3, Nat.ne_of_gt k1, Nat.ne_of_gt k2, Nat.ne_of_gt k3, Nat.ne_of_gt k4⟩
/-- off all the things that change -/
noncomputable def OffAll (L ls lr sl : Addr) (rest : List (Addr × Obj)) : Prop :=
  ∀ p ∈ rest, @Ne Nat p.1 ls ∧ @Ne Nat p.1 360 ∧ @Ne Nat p.1 lr ∧ @Ne Nat p.1 sl ∧ @Ne Nat p.1 (L + 1) ∧ @Ne Nat p.1 (L + 1 + 1) ∧ @Ne Nat p.1 (L + 1 + 1 + 1) ∧ @Ne Nat p.1 (L + 1 + 1 + 1 + 1)
noncomputable abbrev led8 (L ls lr sl : Addr) (secs : List Value) (ns : Nat) (ps : Array Value) (rects : List Value) (nr : Nat) (us : List Value) (nu : Nat) (oT oA oB oC : Obj) (rest : List (Addr × Obj)) : List (Addr × Obj) :=
  (ls, listOf secs.toArray ns) :: (360, tabObj ps) :: (lr, listOf rects.toArray nr) :: (sl, listOf us.toArray nu) :: (L + 1, oT) :: (L + 1 + 1, oA) :: (L + 1 + 1 + 1, oB) :: (L + 1 + 1 + 1 + 1, oC) :: rest
theorem own8 {L ls lr sl : Addr} {secs : List Value} {ns : Nat} {ps : Array Value} {rects : List Value} {nr : Nat} {us : List Value} {nu : Nat} {oT oA oB oC : Obj} {rest own : List (Addr × Obj)} (h : Own (led8 L ls lr sl secs ns ps rects nr us nu oT oA oB oC rest) own) : OffAll L ls lr sl own := fun p hp =>
  ⟨Ne.symm (h p hp _ (.head _)), Ne.symm (h p hp _ (.tail _ (.head _))), Ne.symm (h p hp _ (.tail _ (.tail _ (.head _)))), Ne.symm (h p hp _ (.tail _ (.tail _ (.tail _ (.head _))))), Ne.symm (h p hp _ (.tail _ (.tail _ (.tail _ (.tail _ (.head _)))))),
    Ne.symm (h p hp _ (.tail _ (.tail _ (.tail _ (.tail _ (.tail _ (.head _))))))), Ne.symm (h p hp _ (.tail _ (.tail _ (.tail _ (.tail _ (.tail _ (.tail _ (.head _)))))))), Ne.symm (h p hp _ (.tail _ (.tail _ (.tail _ (.tail _ (.tail _ (.tail _ (.tail _ (.head _)))))))))⟩
theorem OffAll.app {L ls lr sl : Addr} {a b : List (Addr × Obj)} (h : OffAll L ls lr sl a) (k : OffAll L ls lr sl b) : OffAll L ls lr sl (a ++ b) := List.forall_mem_append.mpr ⟨h, k⟩
/-- two ledgers over the same places -/
theorem own_same {a b : List (Addr × Obj)} {own : List (Addr × Obj)} (h : Own a own) (k : ∀ r ∈ b, ∃ r' ∈ a, r'.1 = r.1) : Own b own := fun q hq r hr => by
  obtain ⟨r', h1, h2⟩ := k r hr
  rw [← h2]; exact h q hq r' h1
/-- the law's state between two turns -/
structure Lw (L ls lr sl : Addr) (stat : List (Addr × Obj)) (W H : Int) (i : Nat) (qs : List Q4) (rs : List Q5) (secs rects us vs : List Value) (fr : Addr) (nf : Nat) (ps : Array Value) (oT oA oB oC : Obj) (rest : List (Addr × Obj)) : Prop where
  off : OffAll L ls lr sl rest
  tab : TabOk ps rest
  st : ∀ p ∈ stat, p ∈ rest
  sec : SecsIn rest secs qs
  rct : ListR (RectAt rest) rects rs
  lst : ListR (TupAt5 rest) us rs
  fre : (fr, listOf vs.toArray nf) ∈ rest
  frl : ListR (TupAt4 rest) vs qs
  good : Secs W H qs
  nq : qs.length ≤ i + 1
  nr : rs.length ≤ i
  cT : ∃ v, oT.data = .cell v
  cA : ∃ v, oA.data = .cell v
  cB : ∃ v, oB.data = .cell v
  cC : ∃ v, oC.data = .cell v
structure LM (m : Str → Option Value) (way : Nat) (W H : Int) (rotb : Bool) (b b2 fr sl : Addr) (t0 tW tH : Tok) : Prop where
  way : m (Str.ofString "way") = some (.int way t0)
  rot : m (Str.ofString "rot") = some (.bool rotb)
  width : m (Str.ofString "width") = some (.int W tW)
  height : m (Str.ofString "height") = some (.int H tH)
  box : m (Str.ofString "box") = some (.ref b)
  other : m (Str.ofString "other") = some (.ref b2)
  free : m (Str.ofString "free") = some (.ref fr)
  listed : m (Str.ofString "listed") = some (.ref sl)
theorem LM.due {m : Str → Option Value} {way : Nat} {W H : Int} {rotb : Bool} {b b2 fr sl : Addr} {t0 tW tH : Tok} {v : Value} (h : LM m way W H rotb b b2 fr sl t0 tW tH) : LM (fun y => if y = Str.ofString "due" then some v else m y) way W H rotb b b2 fr sl t0 tW tH :=
  ⟨(if_neg (by decide)).trans h.way, (if_neg (by decide)).trans h.rot, (if_neg (by decide)).trans h.width, (if_neg (by decide)).trans h.height, (if_neg (by decide)).trans h.box, (if_neg (by decide)).trans h.other, (if_neg (by decide)).trans h.free, (if_neg (by decide)).trans h.listed⟩
theorem LM.newFree {m : Str → Option Value} {way : Nat} {W H : Int} {rotb : Bool} {b b2 fr fr' sl : Addr} {t0 tW tH : Tok} (h : LM m way W H rotb b b2 fr sl t0 tW tH) : LM (fun y => if y = Str.ofString "free" then some (.ref fr') else m y) way W H rotb b b2 fr' sl t0 tW tH :=
  ⟨(if_neg (by decide)).trans h.way, (if_neg (by decide)).trans h.rot, (if_neg (by decide)).trans h.width, (if_neg (by decide)).trans h.height, (if_neg (by decide)).trans h.box, (if_neg (by decide)).trans h.other, if_pos rfl, (if_neg (by decide)).trans h.listed⟩
theorem Lw.bounds {L ls lr sl : Addr} {stat : List (Addr × Obj)} {W H : Int} {i : Nat} {qs : List Q4} {rs : List Q5} {secs rects us vs : List Value} {fr : Addr} {nf : Nat} {ps : Array Value} {oT oA oB oC : Obj} {rest : List (Addr × Obj)} (S : Lw L ls lr sl stat W H i qs rs secs rects us vs fr nf ps oT oA oB oC rest) (hWb : W < bigI) (hHb : H < bigI) :
    ∀ q ∈ qs, 0 ≤ q.2.2.1 ∧ q.2.2.1 < bigI ∧ 0 ≤ q.2.2.2 ∧ q.2.2.2 < bigI := fun q hq => by
  have := S.good.size q hq
  exact ⟨by omega, by omega, by omega, by omega⟩
/-- what stands stands in a ledger grown -/
theorem Lw.grow {L ls lr sl : Addr} {stat : List (Addr × Obj)} {W H : Int} {i : Nat} {qs : List Q4} {rs : List Q5} {secs rects us vs : List Value} {fr : Addr} {nf : Nat} {ps ps' : Array Value} {oT oA oB oC oT' : Obj} {rest own : List (Addr × Obj)} (S : Lw L ls lr sl stat W H i qs rs secs rects us vs fr nf ps oT oA oB oC rest)
    (ho : OffAll L ls lr sl own) (hT : TabOk ps' (own ++ rest)) (hc : ∃ v, oT'.data = .cell v) : Lw L ls lr sl stat W H i qs rs secs rects us vs fr nf ps' oT' oA oB oC (own ++ rest) :=
  have sub : ∀ p ∈ rest, p ∈ own ++ rest := fun _ => List.mem_append_right own
  ⟨ho.app S.off, hT, fun p hp => sub p (S.st p hp), S.sec.mono sub, S.rct.imp fun _ _ => RectAt.mono sub, S.lst.imp fun _ _ => TupAt5.mono sub, sub _ S.fre, S.frl.imp fun _ _ x => x.imp sub, S.good, S.nq, S.nr, hc, S.cA, S.cB, S.cC⟩
theorem Lw.succ {L ls lr sl : Addr} {stat : List (Addr × Obj)} {W H : Int} {i : Nat} {qs : List Q4} {rs : List Q5} {secs rects us vs : List Value} {fr : Addr} {nf : Nat} {ps : Array Value} {oT oA oB oC : Obj} {rest : List (Addr × Obj)} (S : Lw L ls lr sl stat W H i qs rs secs rects us vs fr nf ps oT oA oB oC rest) :
    Lw L ls lr sl stat W H (i + 1) qs rs secs rects us vs fr nf ps oT oA oB oC rest :=
  ⟨S.off, S.tab, S.st, S.sec, S.rct, S.lst, S.fre, S.frl, S.good, Nat.le_succ_of_le S.nq, Nat.le_succ_of_le S.nr, S.cT, S.cA, S.cB, S.cC⟩
theorem cell_nf {o : Obj} (h : ∃ v, o.data = .cell v) : ∀ vs, o.data ≠ .fields vs := fun vs e => by
  obtain ⟨v, h⟩ := h
  rw [h] at e; cases e
theorem rB1 {α : Type} {l t r s a b c d : α} {own nw : List α} : ∀ q ∈ l :: t :: r :: s :: a :: b :: c :: d :: (own ++ nw), q ∈ l :: t :: (own ++ r :: s :: a :: b :: c :: d :: nw) := perm_of [[l], [t], own, [r], [s], [a], [b], [c], [d]] [0, 1, 3, 4, 5, 6, 7, 8, 2] nw
theorem rB2 {α : Type} {l t r s a b c d : α} {nw : List α} : ∀ q ∈ l :: t :: r :: a :: s :: b :: c :: d :: nw, q ∈ l :: t :: r :: s :: a :: b :: c :: d :: nw := perm_of [[l], [t], [r], [s], [a], [b], [c], [d]] [0, 1, 2, 4, 3, 5, 6, 7] nw
theorem rB3 {α : Type} {l t r s a b c d : α} {own nw : List α} : ∀ q ∈ s :: a :: b :: c :: d :: l :: t :: r :: (own ++ nw), q ∈ l :: t :: r :: a :: (own ++ s :: b :: c :: d :: nw) := perm_of [[l], [t], [r], [a], own, [s], [b], [c], [d]] [5, 3, 6, 7, 8, 0, 1, 2, 4] nw
theorem rB4 {α : Type} {l t r s a b c d : α} {own own2 nw : List α} : ∀ q ∈ l :: t :: r :: s :: a :: b :: c :: d :: (own ++ (own2 ++ nw)), q ∈ s :: a :: b :: c :: d :: (own ++ l :: t :: r :: (own2 ++ nw)) := perm_of [[s], [a], [b], [c], [d], own, [l], [t], [r], own2] [6, 7, 8, 0, 1, 2, 3, 4, 5, 9] nw
theorem rB5 {α : Type} {l t r s a b c d : α} {own nw : List α} : ∀ q ∈ l :: t :: r :: s :: a :: b :: c :: d :: (own ++ nw), q ∈ l :: t :: r :: a :: (own ++ s :: b :: c :: d :: nw) := perm_of [[l], [t], [r], [a], own, [s], [b], [c], [d]] [0, 1, 2, 5, 3, 6, 7, 8, 4] nw
end Mine
namespace Mine
theorem tab6 {lr sl a1 a2 a3 a4 : Addr} {xs ys : Array Value} {n k : Nat} {oT oA oB oC : Obj} {rest : List (Addr × Obj)} (cT : ∃ v, oT.data = .cell v) (cA : ∃ v, oA.data = .cell v) (cB : ∃ v, oB.data = .cell v) (cC : ∃ v, oC.data = .cell v) :
    ∀ z ∈ (lr, listOf xs n) :: (sl, listOf ys k) :: (a1, oT) :: (a2, oA) :: (a3, oB) :: (a4, oC) :: rest, z ∈ rest ∨ ∀ vs, z.2.data ≠ .fields vs := fun z hz => by
  rcases List.mem_cons.mp hz with rfl | hz
  · exact .inr fun vs e => nomatch e
  rcases List.mem_cons.mp hz with rfl | hz
  · exact .inr fun vs e => nomatch e
  rcases List.mem_cons.mp hz with rfl | hz
  · exact .inr (cell_nf cT)
  rcases List.mem_cons.mp hz with rfl | hz
  · exact .inr (cell_nf cA)
  rcases List.mem_cons.mp hz with rfl | hz
  · exact .inr (cell_nf cB)
  rcases List.mem_cons.mp hz with rfl | hz
  · exact .inr (cell_nf cC)
  · exact .inl hz
theorem tab4 {sl a2 a3 a4 : Addr} {ys : Array Value} {k : Nat} {oA oB oC : Obj} {rest : List (Addr × Obj)} (cA : ∃ v, oA.data = .cell v) (cB : ∃ v, oB.data = .cell v) (cC : ∃ v, oC.data = .cell v) :
    ∀ z ∈ (sl, listOf ys k) :: (a2, oA) :: (a3, oB) :: (a4, oC) :: rest, z ∈ rest ∨ ∀ vs, z.2.data ≠ .fields vs := fun z hz => by
  rcases List.mem_cons.mp hz with rfl | hz
  · exact .inr fun vs e => nomatch e
  rcases List.mem_cons.mp hz with rfl | hz
  · exact .inr (cell_nf cA)
  rcases List.mem_cons.mp hz with rfl | hz
  · exact .inr (cell_nf cB)
  rcases List.mem_cons.mp hz with rfl | hz
  · exact .inr (cell_nf cC)
  · exact .inl hz
theorem tabApp {own a b : List (Addr × Obj)} {P : Addr × Obj → Prop} (h : ∀ z ∈ a, z ∈ b ∨ P z) : ∀ z ∈ own ++ a, z ∈ own ++ b ∨ P z := fun z hz =>
  (List.mem_append.mp hz).elim (fun h => .inl (List.mem_append_left b h)) fun hz => (h z hz).imp_left (List.mem_append_right own)
theorem same8 {L ls lr sl : Addr} {secs secs' : List Value} {ns ns' : Nat} {ps ps' : Array Value} {rects rects' : List Value} {nr nr' : Nat} {us us' : List Value} {nu nu' : Nat} {oT oA oB oC oT' oA' oB' oC' : Obj} {rest rest' : List (Addr × Obj)} (h : ∀ r ∈ rest, r ∈ rest') :
    ∀ r ∈ led8 L ls lr sl secs ns ps rects nr us nu oT oA oB oC rest, ∃ r' ∈ led8 L ls lr sl secs' ns' ps' rects' nr' us' nu' oT' oA' oB' oC' rest', r'.1 = r.1 := fun r hr => by
  rcases List.mem_cons.mp hr with rfl | hr
  · exact ⟨_, .head _, rfl⟩
  rcases List.mem_cons.mp hr with rfl | hr
  · exact ⟨_, .tail _ (.head _), rfl⟩
  rcases List.mem_cons.mp hr with rfl | hr
  · exact ⟨_, .tail _ (.tail _ (.head _)), rfl⟩
  rcases List.mem_cons.mp hr with rfl | hr
  · exact ⟨_, .tail _ (.tail _ (.tail _ (.head _))), rfl⟩
  rcases List.mem_cons.mp hr with rfl | hr
  · exact ⟨_, .tail _ (.tail _ (.tail _ (.tail _ (.head _)))), rfl⟩
  rcases List.mem_cons.mp hr with rfl | hr
  · exact ⟨_, .tail _ (.tail _ (.tail _ (.tail _ (.tail _ (.head _))))), rfl⟩
  rcases List.mem_cons.mp hr with rfl | hr
  · exact ⟨_, .tail _ (.tail _ (.tail _ (.tail _ (.tail _ (.tail _ (.head _)))))), rfl⟩
  rcases List.mem_cons.mp hr with rfl | hr
  · exact ⟨_, .tail _ (.tail _ (.tail _ (.tail _ (.tail _ (.tail _ (.tail _ (.head _))))))), rfl⟩
  · exact ⟨r, .tail _ (.tail _ (.tail _ (.tail _ (.tail _ (.tail _ (.tail _ (.tail _ (h r hr)))))))), rfl⟩
theorem rB2' {α : Type} {l t r s a b c d : α} {nw : List α} : ∀ q ∈ l :: t :: r :: s :: a :: b :: c :: d :: nw, q ∈ l :: t :: r :: a :: s :: b :: c :: d :: nw := perm_of [[l], [t], [r], [a], [s], [b], [c], [d]] [0, 1, 2, 4, 3, 5, 6, 7] nw
theorem same13 {L ls lr sl : Addr} {secs secs' : List Value} {ns ns' : Nat} {ps ps' : Array Value} {rects rects' : List Value} {nr nr' : Nat} {us : List Value} {nu : Nat} {oT oA oB oC : Obj} {rest : List (Addr × Obj)} :
    ∀ r ∈ led8 L ls lr sl secs ns ps rects nr us nu oT oA oB oC rest, ∃ r' ∈ (sl, listOf us.toArray nu) :: (L + 1, oT) :: (L + 1 + 1, oA) :: (L + 1 + 1 + 1, oB) :: (L + 1 + 1 + 1 + 1, oC) :: (ls, listOf secs'.toArray ns') :: (360, tabObj ps') :: (lr, listOf rects'.toArray nr') :: rest, r'.1 = r.1 := fun r hr => by
  rcases List.mem_cons.mp hr with rfl | hr
  · exact ⟨_, .tail _ (.tail _ (.tail _ (.tail _ (.tail _ (.head _))))), rfl⟩
  rcases List.mem_cons.mp hr with rfl | hr
  · exact ⟨_, .tail _ (.tail _ (.tail _ (.tail _ (.tail _ (.tail _ (.head _)))))), rfl⟩
  rcases List.mem_cons.mp hr with rfl | hr
  · exact ⟨_, .tail _ (.tail _ (.tail _ (.tail _ (.tail _ (.tail _ (.tail _ (.head _))))))), rfl⟩
  rcases List.mem_cons.mp hr with rfl | hr
  · exact ⟨_, .head _, rfl⟩
  rcases List.mem_cons.mp hr with rfl | hr
  · exact ⟨_, .tail _ (.head _), rfl⟩
  rcases List.mem_cons.mp hr with rfl | hr
  · exact ⟨_, .tail _ (.tail _ (.head _)), rfl⟩
  rcases List.mem_cons.mp hr with rfl | hr
  · exact ⟨_, .tail _ (.tail _ (.tail _ (.head _))), rfl⟩
  rcases List.mem_cons.mp hr with rfl | hr
  · exact ⟨_, .tail _ (.tail _ (.tail _ (.tail _ (.head _)))), rfl⟩
  · exact ⟨r, .tail _ (.tail _ (.tail _ (.tail _ (.tail _ (.tail _ (.tail _ (.tail _ hr))))))), rfl⟩
section
variable {w : World} {dp un : Nat} {gd : Option (List Code)} {env : Env} {outer : List Env} {A₀ : Around} {base h₀ : Heap} {L : Addr} {m : Str → Option Value} {p : Program} {loose : List Str} {mean : ExcName → Option Value} {mg mb : Str → Option Value} {news : List (Addr × Obj)} {s : Shared} {Q E : Value → Shared → Prop}
variable {fa : Addr} {cd : Value}
/-- one turn of the law's loop, its number and its sides told -/
theorem turn_body {C b b2 db ls lr sl sf : Addr} {Wb Hb : Value} {rotb : Bool} {hb kb : _} {way i : Nat} {W H wi hi : Int} {t0 tW tH t5 t6 t7 : Tok} {stat : List (Addr × Obj)} {qs : List Q4} {rs : List Q5} {secs rects us vs : List Value} {fr : Addr} {ns nr nu nf : Nat} {ps : Array Value} {oT oA oB oC : Obj} {rest : List (Addr × Obj)} {Q : Flow → Shared → Prop}
    (hC : C ∈ BX) (hk1 : choiceOf C = way % 3) (hk2 : splitOf C = way / 3) (hw18 : way < 18) (Cc : Cx 40 w dp un (LE L fa cd) [] A₀ base h₀ L m p loose mean mg mb s.heap) (CH : CodeHd base 364 360) (XB : (Mine.K w.params).In base) (TB : Top p loose mean mg mb base)
    (h360 : @LT.lt Nat _ 360 L) (hlr : @LT.lt Nat _ (L + 1 + 1 + 1 + 1) lr) (hls : @LT.lt Nat _ lr ls) (hsl : @LT.lt Nat _ ls sl)
    (N : News h₀ L s.heap (led8 L ls lr sl secs ns ps rects nr us nu oT oA oB oC rest)) (S : Lw L ls lr sl stat W H i qs rs secs rects us vs fr nf ps oT oA oB oC rest) (M : LM m way W H rotb b b2 fr sl t0 tW tH) (hi20 : i ≤ 20)
    (st1 : (b, instObj C db) ∈ stat) (st2 : (db, dictOf (boxDict Wb Hb (.bool rotb) lr sf ls hb kb) 8) ∈ stat) (hWb : W < bigI) (hHb : H < bigI)
    (m0 : m (Str.ofString "rid") = some (.int i t7)) (m3 : m (Str.ofString "w") = some (.int wi t5)) (m4 : m (Str.ofString "h") = some (.int hi t6)) (hw : 0 < wi) (hh : 0 < hi) (hab : AllBare s.gens)
    (ret : ∀ qs' rs' secs' rects' us' vs' fr' ns' nr' nu' nf' ps' oT' oA' oB' oC' own m' h' gs' d' tk', AllBare gs' → Fr h₀ L h' m' → LM m' way W H rotb b b2 fr' sl t0 tW tH → News h₀ L h' (led8 L ls lr sl secs' ns' ps' rects' nr' us' nu' oT' oA' oB' oC' (own ++ rest)) →
      Lw L ls lr sl stat W H (i + 1) qs' rs' secs' rects' us' vs' fr' nf' ps' oT' oA' oB' oC' (own ++ rest) → Own (led8 L ls lr sl secs ns ps rects nr us nu oT oA oB oC rest) own → Q .next { s with heap := h', gens := gs', drawn := d', toks := tk' }) :
    wpAny (model PW w) (AR dp un gd (LE L fa cd) []) (execs turnBody (LE L fa cd)) Q E s := by
  obtain ⟨B, F, X, T, -, -, hdp, hun⟩ := Cc
  have hq900 : qs.length ≤ 900 := Nat.le_trans S.nq (by omega)
  have hs900 : secs.length ≤ 900 := by rw [S.sec.length]; exact hq900
  have hr900 : rects.length ≤ 900 := by rw [S.rct.length]; exact Nat.le_trans S.nr (by omega)
  have hu900 : us.length ≤ 900 := by rw [S.lst.length]; exact Nat.le_trans S.nr (by omega)
  have hbd := S.bounds hWb hHb
  have O := Ord.of h360 hlr hls hsl
  rw [turnBody_eq]
  refine wpAny_execs_cons ?_
  refine turn0 (qs := qs) ⟨B, F, X, T, rfl, rfl, by k_room, by k_units⟩ N M.way M.free m3 m4 M.rot (.tail _ (.tail _ (.tail _ (.tail _ (.tail _ (.tail _ (.tail _ (.tail _ S.fre)))))))) (S.frl.imp fun _ _ x => x.imp fun p hp => .tail _ (.tail _ (.tail _ (.tail _ (.tail _ (.tail _ (.tail _ (.tail _ hp))))))))
    hbd hw hh hq900 fun due own0 h1 tk1 hdue F1 N1 _ => ?_
  replace N1 := reord N1 fun q hq => List.mem_append_right own0 hq
  have M1 := M.due (v := due)
  have m0' : (fun y => if y = Str.ofString "due" then some due else m y) (Str.ofString "rid") = some (.int i t7) := (if_neg (by decide)).trans m0
  have m3' : (fun y => if y = Str.ofString "due" then some due else m y) (Str.ofString "w") = some (.int wi t5) := (if_neg (by decide)).trans m3
  have m4' : (fun y => if y = Str.ofString "due" then some due else m y) (Str.ofString "h") = some (.int hi t6) := (if_neg (by decide)).trans m4
  have m6' : (fun y => if y = Str.ofString "due" then some due else m y) (Str.ofString "due") = some due := if_pos rfl
  generalize (fun y => if y = Str.ofString "due" then some due else m y) = mm at F1 M1 m0' m3' m4' m6'
  clear F N M m0 m3 m4
  -- fitness asked
  have in1 : ∀ p ∈ rest, p ∈ (lr, listOf rects.toArray nr) :: (sl, listOf us.toArray nu) :: (L + 1, oT) :: (L + 1 + 1, oA) :: (L + 1 + 1 + 1, oB) :: (L + 1 + 1 + 1 + 1, oC) :: rest := fun p hp => .tail _ (.tail _ (.tail _ (.tail _ (.tail _ (.tail _ hp)))))
  have apart : ∀ Z : Addr, @Ne Nat lr Z → @Ne Nat sl Z → @Ne Nat (L + 1) Z → @Ne Nat (L + 1 + 1) Z → @Ne Nat (L + 1 + 1 + 1) Z → @Ne Nat (L + 1 + 1 + 1 + 1) Z → (∀ p ∈ rest, @Ne Nat p.1 Z) → ∀ p ∈ (lr, listOf rects.toArray nr) :: (sl, listOf us.toArray nu) :: (L + 1, oT) :: (L + 1 + 1, oA) :: (L + 1 + 1 + 1, oB) :: (L + 1 + 1 + 1 + 1, oC) :: rest, @Ne Nat p.1 Z := fun Z h1 h2 h3 h4 h5 h6 h7 r hr => by
    rcases List.mem_cons.mp hr with rfl | hr
    · exact h1
    rcases List.mem_cons.mp hr with rfl | hr
    · exact h2
    rcases List.mem_cons.mp hr with rfl | hr
    · exact h3
    rcases List.mem_cons.mp hr with rfl | hr
    · exact h4
    rcases List.mem_cons.mp hr with rfl | hr
    · exact h5
    rcases List.mem_cons.mp hr with rfl | hr
    · exact h6
    · exact h7 r hr
  refine wpAny_execs_cons ?_
  refine turn1 (qs := qs) hC hk1 ⟨B, F1, X, T, rfl, rfl, by k_room, by k_units⟩ CH XB TB N1 hs900 (apart ls O.lr_ls O.s_ls O.c1_ls O.c2_ls O.c3_ls O.c4_ls fun p hp => (S.off p hp).1) (apart 360 O.lr_360 O.s_360 O.c1_360 O.c2_360 O.c3_360 O.c4_360 fun p hp => (S.off p hp).2.1) O.ls_360 (S.tab.mono in1)
    (in1 _ (S.st _ st1)) (in1 _ (S.st _ st2)) (S.sec.mono in1) hbd hw hh hab m0' M1.way M1.free m3' m4' M1.rot m6' M1.box (in1 _ S.fre) (S.frl.imp fun _ _ x => x.imp in1) hq900 hdue fun h2 tk2 gs2 d2 ps1 own1 hab2 F2 N2 hO1 hT1 => ?_
  have hr0 : ∀ z ∈ (lr, listOf rects.toArray nr) :: (sl, listOf us.toArray nu) :: (L + 1, oT) :: (L + 1 + 1, oA) :: (L + 1 + 1 + 1, oB) :: (L + 1 + 1 + 1 + 1, oC) :: rest, z ∈ rest ∨ ∀ vs, z.2.data ≠ .fields vs := tab6 S.cT S.cA S.cB S.cC
  have S1 := S.grow (ps' := ps1) (own8 hO1) (hT1.pick (tabApp hr0)) S.cT
  replace N2 := reord N2 rB1
  have hN1 : ∀ own : List (Addr × Obj), (∀ p ∈ own1 ++ rest, p ∈ own ++ (own1 ++ rest)) := fun own p hp => List.mem_append_right own hp
  have eA : ∀ a b : List (Addr × Obj), (a ++ (b ++ own1)) ++ rest = a ++ (b ++ (own1 ++ rest)) := fun a b => by rw [List.append_assoc, List.append_assoc]
  have sameA : ∀ r ∈ led8 L ls lr sl secs ns ps rects nr us nu oT oA oB oC rest, ∃ r' ∈ led8 L ls lr sl secs ns ps1 rects nr us nu oT oA oB oC (own1 ++ rest), r'.1 = r.1 := same8 fun r hr => List.mem_append_right own1 hr
  generalize hrest1 : own1 ++ rest = rest1 at N2 S1 hN1 eA sameA
  clear N1 F1 hT1
  obtain ⟨v0, hoT⟩ := S1.cT
  have in2 : ∀ p ∈ rest1, p ∈ (sl, listOf us.toArray nu) :: (L + 1 + 1, oA) :: (L + 1 + 1 + 1, oB) :: (L + 1 + 1 + 1 + 1, oC) :: rest1 := fun p hp => .tail _ (.tail _ (.tail _ (.tail _ hp)))
  have apart2 : ∀ Z : Addr, @Ne Nat sl Z → @Ne Nat (L + 1 + 1) Z → @Ne Nat (L + 1 + 1 + 1) Z → @Ne Nat (L + 1 + 1 + 1 + 1) Z → (∀ p ∈ rest1, @Ne Nat p.1 Z) → ∀ p ∈ (sl, listOf us.toArray nu) :: (L + 1 + 1, oA) :: (L + 1 + 1 + 1, oB) :: (L + 1 + 1 + 1 + 1, oC) :: rest1, @Ne Nat p.1 Z := fun Z h2 h4 h5 h6 h7 r hr => by
    rcases List.mem_cons.mp hr with rfl | hr
    · exact h2
    rcases List.mem_cons.mp hr with rfl | hr
    · exact h4
    rcases List.mem_cons.mp hr with rfl | hr
    · exact h5
    rcases List.mem_cons.mp hr with rfl | hr
    · exact h6
    · exact h7 r hr
  have hn3 : ∀ p ∈ (L + 1, oT) :: (sl, listOf us.toArray nu) :: (L + 1 + 1, oA) :: (L + 1 + 1 + 1, oB) :: (L + 1 + 1 + 1 + 1, oC) :: rest1, @Ne Nat p.1 lr := List.forall_mem_cons.mpr ⟨O.c1_lr, apart2 lr O.s_lr O.c2_lr O.c3_lr O.c4_lr fun p hp => (S1.off p hp).2.2.1⟩
  have hn1 : ∀ p ∈ (lr, listOf rects.toArray nr) :: (L + 1, oT) :: (sl, listOf us.toArray nu) :: (L + 1 + 1, oA) :: (L + 1 + 1 + 1, oB) :: (L + 1 + 1 + 1 + 1, oC) :: rest1, @Ne Nat p.1 ls := List.forall_mem_cons.mpr ⟨O.lr_ls, List.forall_mem_cons.mpr ⟨O.c1_ls, apart2 ls O.s_ls O.c2_ls O.c3_ls O.c4_ls fun p hp => (S1.off p hp).1⟩⟩
  have hn2 : ∀ p ∈ (lr, listOf rects.toArray nr) :: (L + 1, oT) :: (sl, listOf us.toArray nu) :: (L + 1 + 1, oA) :: (L + 1 + 1 + 1, oB) :: (L + 1 + 1 + 1 + 1, oC) :: rest1, @Ne Nat p.1 360 := List.forall_mem_cons.mpr ⟨O.lr_360, List.forall_mem_cons.mpr ⟨O.c1_360, apart2 360 O.s_360 O.c2_360 O.c3_360 O.c4_360 fun p hp => (S1.off p hp).2.1⟩⟩
  have hn4 : ∀ p ∈ (sl, listOf us.toArray nu) :: (L + 1 + 1, oA) :: (L + 1 + 1 + 1, oB) :: (L + 1 + 1 + 1 + 1, oC) :: rest1, @Ne Nat p.1 (L + 1) := apart2 (L + 1) O.s_c1 O.c2_c1 O.c3_c1 O.c4_c1 fun p hp => (S1.off p hp).2.2.2.2.1
  refine wpAny_execs_cons ?_
  refine turn2 (qs := qs) hC ⟨B, F2, X, T, rfl, rfl, by k_room, by k_units⟩ CH XB TB (reord N2 rB2) hoT hs900 hr900 hn1 hn2 hn3 hn4 O.ls_360 (S1.tab.mono in2)
    (in2 _ (S1.st _ st1)) (in2 _ (S1.st _ st2)) (S1.sec.mono in2) hbd hw hh hab2 S1.good.nodup m0' m3' m4' M1.box ?_ ?_
  · intro j n fl q r' d' hs ks t1 t2 t3 t4' refs ns' nr' oT' h3 tk3 gs3 dr3 ps2 own2 hqj hSel hab3 F3 d1 N3 n1 n2 hcut ho hT2
    rw [hk1] at hSel
    obtain ⟨tn, rfl⟩ := hdue.of_least (least_some hSel).1 (least_some hSel).2
    obtain ⟨q', hq', hfit⟩ := hSel.fits
    obtain rfl : q = q' := Option.some.inj (hqj.symm.trans hq')
    have hfit' : fitV (way % 3) q.2.2.1 q.2.2.2 (if fl then hi else wi) (if fl then wi else hi) = some n := by cases fl <;> exact hfit
    have hsd := fitV_some hfit'
    have a0 : 0 < (if fl then hi else wi) := by cases fl <;> assumption
    have b0 : 0 < (if fl then wi else hi) := by cases fl <;> assumption
    have hO2 : Own (led8 L ls lr sl secs ns ps1 rects nr us nu oT oA oB oC rest1) own2 := fun z hz r hr => Nat.ne_of_lt (ho z hz r (rB2' r hr))
    have hoff2 := own8 hO2
    clear F2 N2
    refine wpAny_execs_cons ?_
    refine turn3 ⟨B, F3, X, T, rfl, rfl, by k_room, by k_units⟩ N3 (.tail _ (.tail _ (.tail _ (.head _)))) d1 m6' (.inr ⟨r', n, tn, rfl, rfl⟩) fun h4 tk4 F4 N4 => ?_
    have in3 : ∀ p ∈ own2 ++ rest1, p ∈ (ls, listOf (secs.eraseIdx j ++ refs).toArray ns') :: (360, tabObj ps2) :: (lr, listOf (rects ++ [Value.ref r']).toArray nr') :: (own2 ++ rest1) := fun p hp => .tail _ (.tail _ (.tail _ hp))
    obtain ⟨va, hoA⟩ := S1.cA
    obtain ⟨vb, hoB⟩ := S1.cB
    obtain ⟨vc, hoC⟩ := S1.cC
    refine wpAny_execs_cons ?_
    refine turn4S (q := q) (qs := qs) (fl := fl) (j := j) (n := n) ⟨B, F4, X, T, rfl, rfl, by k_room, by k_units⟩ (reord N4 rB3) ?_ (by omega) d1 hoA hoB hoC (in3 _ (List.mem_append_left _ n1)) (in3 _ (List.mem_append_left _ n2)) S1.good hWb hHb hqj hfit hw18 hSel.turn hw hh
      m0' M1.way M1.free m3' m4' M1.rot m6' M1.listed (in3 _ (List.mem_append_right own2 S1.fre)) (S1.frl.imp fun _ _ x => x.imp fun p hp => in3 p (List.mem_append_right own2 hp)) hq900 hu900
      fun D nu' oA' oB' oC' va' vb' vc' u1 u2 u3 u4 u5 fr' vs' nf' own4 h5 tk5 dA dB dC hfr' hvs' hD F5 N5 hO4 => ?_
    · intro p hp
      rcases List.mem_cons.mp hp with rfl | hp
      · exact ⟨O.s_ls.symm, O.c1_ls.symm, O.c2_ls.symm, O.c3_ls.symm, O.c4_ls.symm⟩
      rcases List.mem_cons.mp hp with rfl | hp
      · exact ⟨O.s_360.symm, O.c1_360.symm, O.c2_360.symm, O.c3_360.symm, O.c4_360.symm⟩
      rcases List.mem_cons.mp hp with rfl | hp
      · exact ⟨O.s_lr.symm, O.c1_lr.symm, O.c2_lr.symm, O.c3_lr.symm, O.c4_lr.symm⟩
      · have z := (hoff2.app S1.off) p hp
        exact ⟨z.2.2.2.1, z.2.2.2.2.1, z.2.2.2.2.2.1, z.2.2.2.2.2.2.1, z.2.2.2.2.2.2.2⟩
    have hO4' : Own (led8 L ls lr sl secs ns ps2 rects nr us nu oT' oA oB oC (own2 ++ rest1)) own4 := own_same hO4 same13
    have sub : ∀ p ∈ rest1, p ∈ own4 ++ (own2 ++ rest1) := fun p hp => List.mem_append_right own4 (List.mem_append_right own2 hp)
    have sub2 : ∀ p ∈ own2, p ∈ own4 ++ (own2 ++ rest1) := fun p hp => List.mem_append_right own4 (List.mem_append_left rest1 hp)
    have hjl : j < qs.length := (List.getElem?_eq_some_iff.mp hqj).1
    have S5 : Lw L ls lr sl stat W H (i + 1) (qs.eraseIdx j ++ lawCut (way / 3) q.1 q.2.1 q.2.2.1 q.2.2.2 (if fl then hi else wi) (if fl then wi else hi)) (rs ++ [(q.1, q.2.1, (if fl then hi else wi), (if fl then wi else hi), (i : Int))])
        (secs.eraseIdx j ++ refs) (rects ++ [.ref r']) (us ++ [.ref D]) vs' fr' nf' ps2 oT' oA' oB' oC' (own4 ++ (own2 ++ rest1)) := by
      refine ⟨(own8 hO4').app (hoff2.app S1.off), (hT2.pick (tabApp (tab4 S1.cA S1.cB S1.cC))).mono fun _ => List.mem_append_right own4, fun p hp => sub p (S1.st p hp), ?_, ?_, ?_, List.mem_append_left _ hfr', ?_, S1.good.cut hqj a0 hsd.1 b0 hsd.2, ?_, ?_, ⟨_, d1⟩, ⟨_, dA⟩, ⟨_, dB⟩, ⟨_, dC⟩⟩
      · refine (SecsIn.eraseIdx j (S1.sec.mono sub)).append ?_
        rw [hk2] at hcut
        rw [lawCut_eq (by omega) a0 hsd.1 b0 hsd.2]
        exact hcut.mono sub2
      · exact (S1.rct.imp fun _ _ => RectAt.mono sub).append ⟨⟨r', d', hs, ks, t1, t2, t3, t4', t7, rfl, sub2 _ n1, sub2 _ n2⟩, trivial⟩
      · exact (S1.lst.imp fun _ _ => TupAt5.mono sub).append ⟨⟨D, u1, u2, u3, u4, u5, rfl, List.mem_append_left _ hD⟩, trivial⟩
      · refine hvs'.imp fun _ _ x => x.pick fun z hz => ?_
        rcases List.mem_append.mp hz with hz | hz
        · exact .inl (List.mem_append_left _ hz)
        rcases List.mem_cons.mp hz with rfl | hz
        · exact .inr fun l e => list_ne e
        rcases List.mem_cons.mp hz with rfl | hz
        · exact .inr fun l e => nomatch (congrArg Obj.data e)
        rcases List.mem_cons.mp hz with rfl | hz
        · exact .inr fun l e => list_ne e
        · exact .inl (List.mem_append_right own4 hz)
      · have := cut_len (r := way / 3) (x := q.1) (y := q.2.1) (W := q.2.2.1) (H := q.2.2.2) (w := if fl then hi else wi) (h := if fl then wi else hi)
        have := S1.nq
        rw [List.length_append, List.length_eraseIdx_of_lt hjl]
        omega
      · have := S1.nr
        rw [List.length_append, List.length_singleton]
        omega
    replace N5 := reord N5 rB4
    have in8 : ∀ p ∈ own4 ++ (own2 ++ rest1), p ∈ led8 L ls lr sl (secs.eraseIdx j ++ refs) ns' ps2 (rects ++ [Value.ref r']) nr' (us ++ [Value.ref D]) nu' oT' oA' oB' oC' (own4 ++ (own2 ++ rest1)) := fun p hp => .tail _ (.tail _ (.tail _ (.tail _ (.tail _ (.tail _ (.tail _ (.tail _ hp)))))))
    refine wpAny_execs_cons ?_
    refine turn5 hC ⟨B, F5, X, T, rfl, rfl, by k_room, by k_units⟩ N5 (in8 _ (S5.st _ st1)) (in8 _ (S5.st _ st2)) (.tail _ (.tail _ (.head _))) (S5.rct.imp fun _ _ => RectAt.mono in8) (by rw [S5.rct.length]; exact Nat.le_trans S5.nr (by omega)) hab3 (.tail _ (.tail _ (.tail _ (.head _)))) (S5.lst.imp fun _ _ => TupAt5.mono in8) ((if_neg (by decide)).trans M1.box) ((if_neg (by decide)).trans M1.listed) fun h6 tk6 gs6 dr6 own6 hab6 F6 N6 _ => ?_
    refine wpAny_execs_nil ?_
    refine ret (qs.eraseIdx j ++ lawCut (way / 3) q.1 q.2.1 q.2.2.1 q.2.2.2 (if fl then hi else wi) (if fl then wi else hi)) (rs ++ [(q.1, q.2.1, (if fl then hi else wi), (if fl then wi else hi), (i : Int))]) (secs.eraseIdx j ++ refs) (rects ++ [.ref r']) (us ++ [.ref D]) vs' fr' ns' nr' nu' nf' ps2 oT' oA' oB' oC' (own4 ++ (own2 ++ own1)) _ h6 gs6 dr6 tk6 hab6 F6 M1.newFree ?_ ?_ ?_
    · rw [eA]; exact reord N6 fun p hp => List.mem_append_right own6 hp
    · rw [eA]; exact S5
    · exact own_app (own_same (own_same hO4' (same8 fun r hr => List.mem_append_right own2 hr)) sameA) (own_app (own_same hO2 sameA) hO1)
  · intro oT' h3 tk3 gs3 dr3 ps2 own2 hSel hab3 F3 d1 N3 ho hT2
    rw [hk1] at hSel
    rw [least_none hSel] at hdue
    obtain rfl := hdue.of_nil
    have hO2 : Own (led8 L ls lr sl secs ns ps1 rects nr us nu oT oA oB oC rest1) own2 := fun z hz r hr => Nat.ne_of_lt (ho z hz r (rB2' r hr))
    have S2 := S1.grow (ps' := ps2) (oT' := oT') (own8 hO2) (hT2.pick (tabApp (tab4 S1.cA S1.cB S1.cC))) ⟨_, d1⟩
    replace N3 := reord N3 rB5
    clear F2 N2
    refine wpAny_execs_cons ?_
    refine turn3 ⟨B, F3, X, T, rfl, rfl, by k_room, by k_units⟩ N3 (.tail _ (.tail _ (.tail _ (.tail _ (.head _))))) d1 m6' (.inl ⟨rfl, rfl⟩) fun h4 tk4 F4 N4 => ?_
    refine wpAny_execs_cons ?_
    refine turn4N ⟨B, F4, X, T, rfl, rfl, by k_room, by k_units⟩ N4 (.tail _ (.tail _ (.tail _ (.tail _ (.head _))))) d1 fun h5 tk5 F5 N5 => ?_
    refine wpAny_execs_cons ?_
    have in8 : ∀ p ∈ own2 ++ rest1, p ∈ led8 L ls lr sl secs ns ps2 rects nr us nu oT' oA oB oC (own2 ++ rest1) := fun p hp => .tail _ (.tail _ (.tail _ (.tail _ (.tail _ (.tail _ (.tail _ (.tail _ hp)))))))
    refine turn5 hC ⟨B, F5, X, T, rfl, rfl, by k_room, by k_units⟩ N5 (in8 _ (S2.st _ st1)) (in8 _ (S2.st _ st2)) (.tail _ (.tail _ (.head _))) (S2.rct.imp fun _ _ => RectAt.mono in8) hr900 hab3 (.tail _ (.tail _ (.tail _ (.head _)))) (S2.lst.imp fun _ _ => TupAt5.mono in8) M1.box M1.listed fun h6 tk6 gs6 dr6 own6 hab6 F6 N6 _ => ?_
    refine wpAny_execs_nil ?_
    refine ret qs rs secs rects us vs fr ns nr nu nf ps2 oT' oA oB oC (own2 ++ own1) mm h6 gs6 dr6 tk6 hab6 F6 M1 ?_ ?_ ?_
    · rw [List.append_assoc, hrest1]; exact reord N6 fun p hp => List.mem_append_right own6 hp
    · rw [List.append_assoc, hrest1]; exact S2.succ
    · exact own_app (own_same hO2 sameA) hO1
end
end Mine
namespace Mine
section
variable {prog : Program} {w : World} {A : Around} {s : Shared} {env : Env} {h₀ : Heap} {m : Str → Option Value} {news : List (Addr × Obj)}
/-- an object of no kind that the law's state tells of -/
noncomputable def OddO (o : Obj) : Prop := (o.cls = .type "enumerate" ∨ o.cls = .type "list_iterator") ∧ ∀ vs x t, o.data = .fields vs → vs[1]? ≠ some (.str x t)
/-- what stands of a loop over enumerate(list) between two turns -/
noncomputable def EnumStO (e it l : Addr) (items : Array Value) (i : Nat) (h : Heap) : Prop := (∃ old, IsEnum h e it i old) ∧ h.IsListIter it l i ∧ h.IsList l items
/-- a turn of the loop done -/
inductive TurnEndO (h₀ : Heap) (L : Addr) (s : Shared) (e it l : Addr) (oe oi ol : Obj) (J : (Str → Option Value) → List (Addr × Obj) → Prop) (f : Flow) (s₃ : Shared) : Prop
  | mk (ef : f = .next) (h₃ : Heap) (gs₃ : Array GenState) (d₃ : Drawn) (tk₃ : Tok) (m₂ : Str → Option Value) (news₂ : List (Addr × Obj)) (es : s₃ = { s with heap := h₃, gens := gs₃, drawn := d₃, toks := tk₃ }) (ab : AllBare gs₃) (F : Fr h₀ L h₃ m₂) (N : News h₀ L h₃ ((e, oe) :: (it, oi) :: (l, ol) :: news₂)) (ne : ∀ p ∈ news₂, p.1 ≠ e ∧ p.1 ≠ it) (j : J m₂ news₂)
inductive EnumI (h₀ : Heap) (L : Addr) (s : Shared) (e it l : Addr) (items : Array Value) (J : Nat → (Str → Option Value) → List (Addr × Obj) → Prop) : Nat → Shared → Prop
  | mk (h' : Heap) (gs' : Array GenState) (d' : Drawn) (tk : Tok) (m' : Str → Option Value) (news' : List (Addr × Obj)) (i : Nat) (hg : AllBare gs') (hst : EnumStO e it l items i h') (F : Fr h₀ L h' m') (N : News h₀ L h' news') (hnw : ∀ p ∈ news', p.1 ≠ e ∧ p.1 ≠ it) (hJ : J i m' news') (hi : i ≤ items.size) : EnumI h₀ L s e it l items J (items.size + 1 - i) { s with heap := h', gens := gs', drawn := d', toks := tk }
theorem enum_turnsO {R : Result → Shared → Prop} {e it l : Addr} {items : Array Value} {elts : List Expr} {k : Nat} {tp : Pos} {body : List Stmt} (hh : A.handled = none) (hei : e ≠ it) (hle : l ≠ e) (hli : l ≠ it)
    (he0 : h₀.get? e = none) (hi0 : h₀.get? it = none) (hl0 : h₀.get? l = none) (heL : e ≠ env.locals) (hiL : it ≠ env.locals) (hlL : l ≠ env.locals)
    (hst : EnumStO e it l items 0 s.heap) (hg : AllBare s.gens) (F : Fr h₀ env.locals s.heap m) (N : News h₀ env.locals s.heap news) (hnw : ∀ p ∈ news, p.1 ≠ e ∧ p.1 ≠ it)
    (J : Nat → (Str → Option Value) → List (Addr × Obj) → Prop) (h0 : J 0 m news)
    (step : ∀ i v T t m₁ news₁ h₁ gs₁ d₁ tk₁ oe oi ol, items[i]? = some v → OddO oe → OddO oi → J i m₁ news₁ → AllBare gs₁ → (∀ p ∈ news₁, p.1 ≠ e ∧ p.1 ≠ it) → h₁.IsTuple T #[.int i t, v] → Fr h₀ env.locals h₁ m₁ → News h₀ env.locals h₁ ((e, oe) :: (it, oi) :: (l, ol) :: news₁) →
      wpAny (model prog w) A (assign (.Tuple elts k tp) env (.ref T)) (fun _ s₂ => wpAny (model prog w) A (execs body env) (TurnEndO h₀ env.locals s e it l oe oi ol (J (i + 1))) (notedBy (model prog w) A env fun e s' => R (.error e) s') s₂)
        (notedBy (model prog w) A env fun e s' => R (.error e) s') { s with heap := h₁, gens := gs₁, drawn := d₁, toks := tk₁ })
    (hR : ∀ h' gs' d' tk' m' news', AllBare gs' → Fr h₀ env.locals h' m' → News h₀ env.locals h' news' → J items.size m' news' → R (.ok .next) { s with heap := h', gens := gs', drawn := d', toks := tk' }) :
    codeAny (model prog w) A (.forLoop (.Tuple elts k tp) (.ref e) body [] env) R s := by
  have W := WalksT.enumerate (prog := prog) (w := w) (A := A) hh e it l hei hle hli items
  have hw1 : ∀ b, b ≠ e ∧ b ≠ it → b ∉ [e, it] := fun b hb hm => by
    rcases List.mem_cons.mp hm with rfl | hm
    · exact hb.1 rfl
    · exact hb.2 (List.mem_singleton.mp hm)
  have old : ∀ b o, h₀.get? b = some o → b ≠ e ∧ b ≠ it := fun b o h => ⟨fun q => (by rw [q, he0] at h; cases h), fun q => (by rw [q, hi0] at h; cases h)⟩
  refine codeAny_forLoop_any (EnumI h₀ env.locals s e it l items J) ?_ (items.size + 1) (EnumI.mk s.heap s.gens s.drawn s.toks m news 0 hg hst F N hnw h0 (Nat.zero_le _))
  rintro k s' ⟨h', gs', d', tk, m', news', i, hg', hst', F', N', hnw', hJ, hi⟩
  have next : ∀ h₁ : Heap, (∀ b o, b ∉ [e, it] → h'.get? b = some o → h₁.get? b = some o) → Fr h₀ env.locals h₁ m' ∧ News h₀ env.locals h₁ news' := fun h₁ hk₁ =>
    ⟨⟨F'.ns.at' fun o x => hk₁ _ o (hw1 _ ⟨heL.symm, hiL.symm⟩) x, fun b o x => hk₁ b o (hw1 _ (old b o x)) (F'.keep b o x), F'.above⟩, fun p hp => ⟨hk₁ _ _ (hw1 _ (hnw' p hp)) (N' p hp).1, (N' p hp).2⟩⟩
  by_cases hlt : i < items.size
  · refine W.item i _ _ _ hlt hst' fun T vals h₁ tk₁ hP hT1 hT hMd hk₁ => ?_
    obtain ⟨t, v, hv, rfl⟩ := hP
    have hTw : T ∉ [e, it] := W.apart i T _ hMd
    refine W.go _ _ _ i T _ _ _ hMd fun h₂ hst₂ hk₂ => ?_
    obtain ⟨F₂, N₂⟩ := next h₂ fun b o hb x => hk₂ b o hb (hk₁ b o hb x)
    obtain ⟨⟨old', he'⟩, ⟨oi, hoi, hi1, hi2⟩, ⟨ol, hol, hl1, hl2⟩⟩ := hst₂
    obtain ⟨oe, hoe, hEQ, hOe⟩ : ∃ oe, h₂.get? e = some oe ∧ (∀ h : Heap, h.get? e = some oe → IsEnum h e it ((i + 1 : Nat) : Int) old') ∧ OddO oe := ⟨_, he', fun _ x => x, .inl rfl, fun vs x t h => by cases h; exact fun q => nomatch (Option.some.inj q)⟩
    refine wpAny_mono (step i v T t m' news' h₂ gs' d' tk₁ oe oi ol hv hOe ⟨.inr hi1, fun vs x t h => by rw [hi2] at h; cases h; exact fun q => nomatch (Option.some.inj q)⟩ hJ hg' hnw' (hT.at fun o x => hk₂ T o hTw x) F₂ (fun p hp => ?_)) (fun _ s₂ h₂' => wpAny_mono h₂' (fun f s₃ h₃ => ?_) fun _ _ x => x) fun _ _ x => x
    · rcases List.mem_cons.mp hp with rfl | hp
      · exact ⟨hoe, heL, he0⟩
      rcases List.mem_cons.mp hp with rfl | hp
      · exact ⟨hoi, hiL, hi0⟩
      rcases List.mem_cons.mp hp with rfl | hp
      · exact ⟨hol, hlL, hl0⟩
      · exact N₂ p hp
    · obtain ⟨rfl, h₃', gs₃, d₃, tk₃, m₂, news₂, rfl, g₃, F₃, N₃, ha₃, hJ₃⟩ := h₃
      exact ⟨items.size + 1 - (i + 1), by omega, EnumI.mk h₃' gs₃ d₃ tk₃ m₂ news₂ (i + 1) g₃ ⟨⟨old', hEQ _ (N₃ _ (.head _)).1⟩, ⟨oi, (N₃ _ (.tail _ (.head _))).1, hi1, hi2⟩, ⟨ol, (N₃ _ (.tail _ (.tail _ (.head _)))).1, hl1, hl2⟩⟩ F₃ (fun p hp => N₃ p (.tail _ (.tail _ (.tail _ hp)))) ha₃ hJ₃ hlt⟩
  · have hin : i = items.size := by omega
    subst hin
    refine W.done _ _ _ hst' fun h₁ tk₁ hk₁ => wpAny_execs_nil ?_
    obtain ⟨F₁, N₁⟩ := next h₁ hk₁
    exact hR h₁ gs' d' tk₁ m' news' hg' F₁ N₁ hJ
end
/-- what stands in a ledger stands without the odd ones -/
noncomputable def Odd (z : Addr × Obj) : Prop := OddO z.2
theorem Odd.tup {z : Addr × Obj} {a : Addr} {l : List Value} (h : Odd z) (e : z = (a, tupO l)) : False := by
  subst e
  rcases h.1 with h | h <;> · injection h with h; exact absurd h (by decide)
theorem Odd.lst {z : Addr × Obj} {a : Addr} {xs : Array Value} {n : Nat} (h : Odd z) (e : z = (a, listOf xs n)) : False := by
  subst e
  rcases h.1 with h | h <;> · injection h with h; exact absurd h (by decide)
theorem Odd.dct {z : Addr × Obj} {a : Addr} {xs : List DictEntry} {n : Nat} (h : Odd z) (e : z = (a, dictOf xs n)) : False := by
  subst e
  rcases h.1 with h | h <;> · injection h with h; exact absurd h (by decide)
theorem Odd.inst {z : Addr × Obj} {a c d : Addr} (h : Odd z) (e : z = (a, instObj c d)) : False := by
  subst e
  rcases h.1 with h | h <;> exact nomatch h
section
variable {big small : List (Addr × Obj)}
theorem SecsIn.pick (hs : ∀ z ∈ big, z ∈ small ∨ Odd z) : ∀ {vs : List Value} {qs : List Q4}, SecsIn big vs qs → SecsIn small vs qs
  | [], [], _ => trivial
  | _ :: _, _ :: _, h => by
    obtain ⟨⟨a, d, h1, k1, t1, t2, t3, t4, r, e, m1, m2⟩, h2⟩ := h
    exact ⟨⟨a, d, h1, k1, t1, t2, t3, t4, r, e, (hs _ m1).resolve_right fun o => o.inst rfl, (hs _ m2).resolve_right fun o => o.dct rfl⟩, SecsIn.pick hs h2⟩
  | [], _ :: _, h => h.elim
  | _ :: _, [], h => h.elim
theorem RectAt.pick (hs : ∀ z ∈ big, z ∈ small ∨ Odd z) {v : Value} {q : Q5} (h : RectAt big v q) : RectAt small v q := by
  obtain ⟨a, d, h1, k1, t1, t2, t3, t4, t5, e, m1, m2⟩ := h
  exact ⟨a, d, h1, k1, t1, t2, t3, t4, t5, e, (hs _ m1).resolve_right fun o => o.inst rfl, (hs _ m2).resolve_right fun o => o.dct rfl⟩
theorem TupAt5.pick (hs : ∀ z ∈ big, z ∈ small ∨ Odd z) {v : Value} {q : Q5} (h : TupAt5 big v q) : TupAt5 small v q := by
  obtain ⟨a, t1, t2, t3, t4, t5, e, m1⟩ := h
  exact ⟨a, t1, t2, t3, t4, t5, e, (hs _ m1).resolve_right fun o => o.tup rfl⟩
theorem Lw.pick {L ls lr sl : Addr} {stat : List (Addr × Obj)} {W H : Int} {i : Nat} {qs : List Q4} {rs : List Q5} {secs rects us vs : List Value} {fr : Addr} {nf : Nat} {ps : Array Value} {oT oA oB oC : Obj} (S : Lw L ls lr sl stat W H i qs rs secs rects us vs fr nf ps oT oA oB oC big)
    (hs : ∀ z ∈ big, z ∈ small ∨ Odd z) (hb : ∀ z ∈ small, z ∈ big) (hst : ∀ p ∈ stat, p ∈ small) : Lw L ls lr sl stat W H i qs rs secs rects us vs fr nf ps oT oA oB oC small :=
  ⟨fun p hp => S.off p (hb p hp), ⟨S.tab.ok, S.tab.lam.imp id fun ⟨c', oc, xs, t, a, b, c, d⟩ => ⟨c', oc, xs, t, a, (hs _ b).resolve_right fun o => o.2 xs _ _ c d, c, d⟩⟩, hst, S.sec.pick hs, S.rct.imp fun _ _ => RectAt.pick hs, S.lst.imp fun _ _ => TupAt5.pick hs,
    (hs _ S.fre).resolve_right fun o => o.lst rfl, S.frl.imp fun _ _ x => x.pick fun z hz => (hs z hz).imp id fun o l e => o.tup (a := z.1) (by rw [← e]), S.good, S.nq, S.nr, S.cT, S.cA, S.cB, S.cC⟩
end
end Mine
namespace Mine
noncomputable def lawTgt : Expr := match lawFor with | .For t _ _ _ _ => t | _ => .Constant .none 0 ⟨0, 0, 0, 0⟩
noncomputable def lawIter : Expr := match lawFor with | .For _ i _ _ _ => i | _ => .Constant .none 0 ⟨0, 0, 0, 0⟩
noncomputable def lawForPos : Pos := match lawFor with | .For _ _ _ _ p => p | _ => ⟨0, 0, 0, 0⟩
theorem lawFor_eq : lawFor = .For lawTgt lawIter turnBody [] lawForPos := by kernel_rfl
theorem hold_plus {M : Model} {A : Around} {E : Value → Shared → Prop} {s : Shared} {Q : Value → Shared → Prop} {a b : Value} (h : Hold (wpAny M A (binaryOp .Add a b) Q E s)) : wpAny M A (binaryOp .Add a b) Q E s := h.get
theorem hold_enum {M : Model} {A : Around} {E : Value → Shared → Prop} {s : Shared} {Q : Value → Shared → Prop} {vs : List Value} (h : Hold (wpAny M A (call (.type "enumerate") vs) Q E s)) : wpAny M A (call (.type "enumerate") vs) Q E s := h.get
theorem hold_execs {M : Model} {A : Around} {E : Value → Shared → Prop} {s : Shared} {Q : Flow → Shared → Prop} {b : List Stmt} {env : Env} (h : Hold (wpAny M A (execs b env) Q E s)) : wpAny M A (execs b env) Q E s := h.get
local macro_rules | `(tactic| walk_at "binaryOp Add ref ref") => Mine.sHold "Mine.hold_plus"
local macro_rules | `(tactic| walk_at "call type:enumerate") => Mine.sHold "Mine.hold_enum"
section
variable {w : World} {dp un : Nat} {gd : Option (List Code)} {env : Env} {outer : List Env} {A₀ : Around} {base h₀ : Heap} {L : Addr} {m : Str → Option Value} {p : Program} {loose : List Str} {mean : ExcName → Option Value} {mg mb : Str → Option Value} {news : List (Addr × Obj)} {s : Shared} {Q E : Value → Shared → Prop}
variable {fa : Addr} {cd : Value}
/-- enumerate(sizes + [(1, 1)]) -/
theorem law_iter {sz : Addr} {szs : List Value} {nz : Nat} (Cc : Cx 12 w dp un (LE L fa cd) [] A₀ base h₀ L m p loose mean mg mb s.heap) (N : News h₀ L s.heap news) (hsz : (sz, listOf szs.toArray nz) ∈ news) (hm : m (Str.ofString "sizes") = some (.ref sz)) (hlen : szs.length ≤ 900)
    (ret : ∀ e it l T u1 u2 h' tk', EnumStO e it l (szs ++ [Value.ref T]).toArray 0 h' → @Ne Nat e it → @Ne Nat l e → @Ne Nat l it → h₀.get? e = none → h₀.get? it = none → @Ne Nat e L → @Ne Nat it L → Fr h₀ L h' m →
      News h₀ L h' ((l, listOf (szs ++ [Value.ref T]).toArray 0) :: (T, tupO [.int 1 u1, .int 1 u2]) :: news) → Own news [(l, listOf (szs ++ [Value.ref T]).toArray 0), (T, tupO [.int 1 u1, .int 1 u2])] → (∀ p ∈ (l, listOf (szs ++ [Value.ref T]).toArray 0) :: (T, tupO [.int 1 u1, .int 1 u2]) :: news, @Ne Nat p.1 e ∧ @Ne Nat p.1 it) → Q (.ref e) { s with heap := h', toks := tk' }) :
    wpAny (model PW w) (AR dp un gd (LE L fa cd) []) (eval lawIter (LE L fa cd)) Q E s := by
  obtain ⟨B, F, X, T, -, -, hdp, hun⟩ := Cc
  have e1 : lawIter = lawIter := rfl
  (conv at e1 => rhs; whnf)
  rw [e1]
  clear e1
  unfold LE at *
  have e2 : lawScope = lawScope := rfl
  (conv at e2 => rhs; whnf)
  rw [e2]
  clear e2
  k_steps
  rename Fr _ _ _ _ => Fz
  rename News _ _ _ _ => Nz
  rename_i T' h1 lT l' h2 lL
  refine Hold.mk ?_
  have hT' : ∀ p ∈ news, @LT.lt Nat _ p.1 T' := lT
  have hl' : ∀ p ∈ news, @LT.lt Nat _ p.1 l' := allLt_all lL.2
  have hTl : @LT.lt Nat _ T' l' := lL.1
  refine add_lists (vs := szs) (ws := [Value.ref T']) Fz Nz ⟨_, (Nz _ (.tail _ (.tail _ hsz))).1, rfl, _, rfl⟩ ⟨_, (Nz _ (.head _)).1, rfl, _, rfl⟩ (fun h3 F3 N3 => ?_) ?_
  · have hlt : ∀ p ∈ (l', listOf #[Value.ref T'] 0) :: (T', tupO [.int 1 s.toks, .int 1 (s.toks + 1)]) :: news, @LT.lt Nat _ p.1 h2.objs.size := fun p hp => Heap.lt_size (Nz p hp).1
    generalize h2.objs.size = Z at hlt N3 ⊢
    clear Fz Nz
    k_steps
    refine Hold.mk (call_enumerate_list ⟨_, (N3 _ (.head _)).1, rfl, _, rfl⟩ fun h4 he hit hz4 hk4 => ?_)
    have hl4 : ∀ p ∈ (Z, listOf (szs ++ [Value.ref T']).toArray 0) :: (l', listOf #[Value.ref T'] 0) :: (T', tupO [.int 1 s.toks, .int 1 (s.toks + 1)]) :: news, @LT.lt Nat _ p.1 h3.objs.size := fun p hp => Heap.lt_size (N3 p hp).1
    have hL : @LT.lt Nat _ L h3.objs.size := F3.ns.lt
    have fresh : ∀ a, @LE.le Nat _ h3.objs.size a → h₀.get? a = none := fun a ha => by
      cases e : h₀.get? a with
      | none => rfl
      | some o => exact absurd (Heap.lt_size (F3.keep a o e)) (Nat.not_lt.mpr ha)
    have F4 : Fr h₀ L h4 m := F3.keeps hk4
    have N4 := N3.grown hk4
    have hZ : @LT.lt Nat _ Z h3.objs.size := hl4 _ (.head _)
    have sub : ∀ p ∈ (Z, listOf (szs ++ [Value.ref T']).toArray 0) :: (T', tupO [.int 1 s.toks, .int 1 (s.toks + 1)]) :: news, p ∈ (Z, listOf (szs ++ [Value.ref T']).toArray 0) :: (l', listOf #[Value.ref T'] 0) :: (T', tupO [.int 1 s.toks, .int 1 (s.toks + 1)]) :: news := fun p hp => by
      rcases List.mem_cons.mp hp with rfl | hp
      · exact .head _
      · exact .tail _ (.tail _ hp)
    have q1 : @Ne Nat (h3.objs.size + 1) h3.objs.size := by omega
    have q2 : @Ne Nat Z (h3.objs.size + 1) := by omega
    have q3 : @Ne Nat Z h3.objs.size := by omega
    have q4 : @Ne Nat (h3.objs.size + 1) L := by omega
    have q5 : @Ne Nat h3.objs.size L := by omega
    refine ret (h3.objs.size + 1) h3.objs.size Z T' _ _ h4 _ ⟨⟨_, he⟩, hit, ⟨_, (N4 _ (.head _)).1, rfl, _, rfl⟩⟩ q1 q2 q3 (fresh _ (Nat.le_succ _)) (fresh _ (Nat.le_refl _)) q4 q5 F4 (fun p hp => N4 p (sub p hp))
      (own_cons (fun r hr => Nat.ne_of_lt (hlt r (.tail _ (.tail _ hr)))) (own_cons (fun r hr => Nat.ne_of_lt (hT' r hr)) own_nil)) fun p hp => ?_
    have := hl4 p (sub p hp)
    exact ⟨Nat.ne_of_lt (Nat.lt_succ_of_lt this), Nat.ne_of_lt this⟩
  · have h3 : 1000 ≤ sizeLine := by decide
    show szs.length + 1 ≤ _
    omega
end
end Mine
namespace Mine
noncomputable def lawElts : List Expr := match lawTgt with | .Tuple e _ _ => e | _ => []
noncomputable def lawKk : Nat := match lawTgt with | .Tuple _ k _ => k | _ => 0
noncomputable def lawTp : Pos := match lawTgt with | .Tuple _ _ p => p | _ => ⟨0, 0, 0, 0⟩
theorem lawTgt_eq : lawTgt = .Tuple lawElts lawKk lawTp := by kernel_rfl
theorem mem8 {L ls lr sl : Addr} {secs : List Value} {ns : Nat} {ps : Array Value} {rects : List Value} {nr : Nat} {us : List Value} {nu : Nat} {oT oA oB oC : Obj} {rest : List (Addr × Obj)} {z : Addr × Obj} (h : z ∈ led8 L ls lr sl secs ns ps rects nr us nu oT oA oB oC rest) :
    z ∈ led8 L ls lr sl secs ns ps rects nr us nu oT oA oB oC [] ++ rest := h
theorem hz8 {L ls lr sl : Addr} {secs secs' : List Value} {ns ns' : Nat} {ps ps' : Array Value} {rects rects' : List Value} {nr nr' : Nat} {us us' : List Value} {nu nu' : Nat} {oT oA oB oC oT' oA' oB' oC' : Obj} {rest' : List (Addr × Obj)} {z : Addr × Obj} (h : z ∈ led8 L ls lr sl secs ns ps rects nr us nu oT oA oB oC []) :
    ∃ r' ∈ led8 L ls lr sl secs' ns' ps' rects' nr' us' nu' oT' oA' oB' oC' rest', r'.1 = z.1 := same8 (rest := []) (fun _ h => absurd h List.not_mem_nil) z h
section
variable {w : World} {dp un : Nat} {gd : Option (List Code)} {env : Env} {outer : List Env} {A₀ : Around} {base h₀ : Heap} {L : Addr} {m : Str → Option Value} {p : Program} {loose : List Str} {mean : ExcName → Option Value} {mg mb : Str → Option Value} {news : List (Addr × Obj)} {s : Shared} {Q E : Value → Shared → Prop}
variable {fa : Addr} {cd : Value}
/-- rid, (w, h) -/
theorem law_tgt {T y : Addr} {i : Nat} {t t1 t2 : Tok} {w1 h1 : Int} {Q : Unit → Shared → Prop} (Cc : Cx 12 w dp un (LE L fa cd) [] A₀ base h₀ L m p loose mean mg mb s.heap) (N : News h₀ L s.heap news) (hT : s.heap.IsTuple T #[.int i t, .ref y]) (hy : (y, tupO [.int w1 t1, .int h1 t2]) ∈ news)
    (ret : ∀ h' tk', Fr h₀ L h' (fun z => if z = Str.ofString "h" then some (.int h1 t2) else if z = Str.ofString "w" then some (.int w1 t1) else if z = Str.ofString "rid" then some (.int i t) else m z) → News h₀ L h' news → Q () { s with heap := h', toks := tk' }) :
    wpAny (model PW w) (AR dp un gd (LE L fa cd) []) (assign lawTgt (LE L fa cd) (.ref T)) Q E s := by
  obtain ⟨B, F, X, T', -, -, hdp, hun⟩ := Cc
  have e1 : lawTgt = lawTgt := rfl
  (conv at e1 => rhs; whnf)
  rw [e1]
  clear e1
  unfold LE at *
  have e2 : lawScope = lawScope := rfl
  (conv at e2 => rhs; whnf)
  rw [e2]
  clear e2
  refine wpAny_assign_Tuple rfl hT rfl rfl fun h2 hx => ?_
  have kp : ∀ b o, s.heap.get? b = some o → h2.get? b = some o := fun b o e => hx b o (Nat.ne_of_lt (Heap.lt_size e)) e
  have F2 : Fr h₀ L h2 m := F.keeps kp
  have N2 := N.grown kp
  clear F N hT hx kp
  k_steps
  exact ret _ _ (by k_asm) (by k_asm)
theorem LM.set {m : Str → Option Value} {way : Nat} {W H : Int} {rotb : Bool} {b b2 fr sl : Addr} {t0 tW tH : Tok} {x : Str} {v : Value} (h : LM m way W H rotb b b2 fr sl t0 tW tH) (hx : [Str.ofString "way", Str.ofString "rot", Str.ofString "width", Str.ofString "height", Str.ofString "box", Str.ofString "other", Str.ofString "free", Str.ofString "listed"].contains x = false) :
    LM (fun y => if y = x then some v else m y) way W H rotb b b2 fr sl t0 tW tH := by
  have ne : ∀ y ∈ [Str.ofString "way", Str.ofString "rot", Str.ofString "width", Str.ofString "height", Str.ofString "box", Str.ofString "other", Str.ofString "free", Str.ofString "listed"], y ≠ x := fun y hy e => by
    subst e
    rw [List.contains_iff_mem.mpr hy] at hx
    cases hx
  exact ⟨(if_neg (ne _ (.head _))).trans h.way, (if_neg (ne _ (.tail _ (.head _)))).trans h.rot, (if_neg (ne _ (.tail _ (.tail _ (.head _))))).trans h.width, (if_neg (ne _ (.tail _ (.tail _ (.tail _ (.head _)))))).trans h.height,
    (if_neg (ne _ (.tail _ (.tail _ (.tail _ (.tail _ (.head _))))))).trans h.box, (if_neg (ne _ (.tail _ (.tail _ (.tail _ (.tail _ (.tail _ (.head _)))))))).trans h.other, (if_neg (ne _ (.tail _ (.tail _ (.tail _ (.tail _ (.tail _ (.tail _ (.head _))))))))).trans h.free,
    (if_neg (ne _ (.tail _ (.tail _ (.tail _ (.tail _ (.tail _ (.tail _ (.tail _ (.head _)))))))))).trans h.listed⟩
theorem Lw.restat {L ls lr sl : Addr} {stat stat' : List (Addr × Obj)} {W H : Int} {i : Nat} {qs : List Q4} {rs : List Q5} {secs rects us vs : List Value} {fr : Addr} {nf : Nat} {ps : Array Value} {oT oA oB oC : Obj} {rest : List (Addr × Obj)} (S : Lw L ls lr sl stat W H i qs rs secs rects us vs fr nf ps oT oA oB oC rest) (h : ∀ p ∈ stat', p ∈ rest) :
    Lw L ls lr sl stat' W H i qs rs secs rects us vs fr nf ps oT oA oB oC rest := ⟨S.off, S.tab, h, S.sec, S.rct, S.lst, S.fre, S.frl, S.good, S.nq, S.nr, S.cT, S.cA, S.cB, S.cC⟩
theorem rC1 {α : Type} {l t r s a b c d x y : α} {nw : List α} : ∀ q ∈ l :: t :: r :: s :: a :: b :: c :: d :: (x :: y :: nw), q ∈ x :: y :: l :: t :: r :: s :: a :: b :: c :: d :: nw := perm_of [[x], [y], [l], [t], [r], [s], [a], [b], [c], [d]] [2, 3, 4, 5, 6, 7, 8, 9, 0, 1] nw
theorem rC2 {α : Type} {l t r s a b c d x y z : α} {nw : List α} : ∀ q ∈ l :: t :: r :: s :: a :: b :: c :: d :: (x :: y :: nw), q ∈ x :: y :: z :: l :: t :: r :: s :: a :: b :: c :: d :: nw := perm_of [[x], [y], [z], [l], [t], [r], [s], [a], [b], [c], [d]] [3, 4, 5, 6, 7, 8, 9, 10, 0, 1] nw
theorem rC3 {α : Type} {l t r s a b c d x y z : α} {own nw : List α} (hz : z ∈ nw) : ∀ q ∈ x :: y :: z :: l :: t :: r :: s :: a :: b :: c :: d :: (own ++ nw), q ∈ l :: t :: r :: s :: a :: b :: c :: d :: (own ++ (x :: y :: nw)) := by
  intro q hq; simp only [List.mem_cons, List.mem_append] at hq ⊢; grind
/-- the law's loop between two turns -/
inductive LawJ (L ls lr sl : Addr) (stat : List (Addr × Obj)) (way : Nat) (W H : Int) (rotb : Bool) (b b2 : Addr) (t0 tW tH : Tok) (i : Nat) (m : Str → Option Value) (news : List (Addr × Obj)) : Prop
  | mk (qs : List Q4) (rs : List Q5) (secs rects us vs : List Value) (fr : Addr) (ns nr nu nf : Nat) (ps : Array Value) (oT oA oB oC : Obj) (rest : List (Addr × Obj)) (e : news = led8 L ls lr sl secs ns ps rects nr us nu oT oA oB oC rest) (M : LM m way W H rotb b b2 fr sl t0 tW tH) (S : Lw L ls lr sl stat W H i qs rs secs rects us vs fr nf ps oT oA oB oC rest)
theorem law_for {C b b2 db ls lr sl sf sz : Addr} {Wb Hb : Value} {rotb : Bool} {hb kb : _} {way : Nat} {W H : Int} {t0 tW tH : Tok} {stat : List (Addr × Obj)} {qs : List Q4} {rs : List Q5} {secs rects us vs szs : List Value} {ws : List (Int × Int)} {fr : Addr} {ns nr nu nf nz : Nat} {ps : Array Value} {oT oA oB oC : Obj} {rest : List (Addr × Obj)} {Q : Flow → Shared → Prop}
    (hC : C ∈ BX) (hk1 : choiceOf C = way % 3) (hk2 : splitOf C = way / 3) (hw18 : way < 18) (Cc : Cx 60 w dp un (LE L fa cd) [] A₀ base h₀ L m p loose mean mg mb s.heap) (CH : CodeHd base 364 360) (XB : (Mine.K w.params).In base) (TB : Top p loose mean mg mb base)
    (h360 : @LT.lt Nat _ 360 L) (hlr : @LT.lt Nat _ (L + 1 + 1 + 1 + 1) lr) (hls : @LT.lt Nat _ lr ls) (hsl : @LT.lt Nat _ ls sl)
    (N : News h₀ L s.heap (led8 L ls lr sl secs ns ps rects nr us nu oT oA oB oC rest)) (S : Lw L ls lr sl stat W H 0 qs rs secs rects us vs fr nf ps oT oA oB oC rest) (M : LM m way W H rotb b b2 fr sl t0 tW tH)
    (st1 : (b, instObj C db) ∈ rest) (st2 : (db, dictOf (boxDict Wb Hb (.bool rotb) lr sf ls hb kb) 8) ∈ rest) (hWb : W < bigI) (hHb : H < bigI)
    (hsz : (sz, listOf szs.toArray nz) ∈ rest) (hm : m (Str.ofString "sizes") = some (.ref sz)) (hws : ListR (PairR rest) szs ws) (hpos : ∀ p ∈ ws, 0 < p.1 ∧ 0 < p.2) (h8 : ws.length ≤ 8) (hab : AllBare s.gens)
    (ret : ∀ i m' news' h' gs' d' tk', LawJ L ls lr sl stat way W H rotb b b2 t0 tW tH i m' news' → i ≤ 10 → AllBare gs' → Fr h₀ L h' m' → News h₀ L h' news' → Q .next { s with heap := h', gens := gs', drawn := d', toks := tk' }) :
    wpAny (model PW w) (AR dp un gd (LE L fa cd) []) (exec lawFor (LE L fa cd)) Q E s := by
  obtain ⟨B, F, X, T, -, -, hdp, hun⟩ := Cc
  rw [lawFor_eq]
  have in8 : ∀ p ∈ rest, p ∈ led8 L ls lr sl secs ns ps rects nr us nu oT oA oB oC rest := fun p hp => .tail _ (.tail _ (.tail _ (.tail _ (.tail _ (.tail _ (.tail _ (.tail _ hp)))))))
  refine wpAny_For ?_ (fun _ => by with_unfolding_all rfl)
  refine law_iter ⟨B, F, X, T, rfl, rfl, by k_room, by k_units⟩ N (in8 _ hsz) hm (by rw [hws.length]; omega) fun e it l T0 u1 u2 h1 tk1 hst q1 q2 q3 he0 hi0 heL hiL F1 N1 hO hne => ?_
  obtain ⟨old, he⟩ := hst.1
  refine wpAny_pyIter_enum he ?_
  rw [lawTgt_eq]
  -- the ledger told anew
  have hrst : ∀ p ∈ rest, p ∈ (l, listOf (szs ++ [Value.ref T0]).toArray 0) :: (T0, tupO [.int 1 u1, .int 1 u2]) :: rest := fun p hp => .tail _ (.tail _ hp)
  have S1 : Lw L ls lr sl ((l, listOf (szs ++ [Value.ref T0]).toArray 0) :: (T0, tupO [.int 1 u1, .int 1 u2]) :: rest) W H 0 qs rs secs rects us vs fr nf ps oT oA oB oC ((l, listOf (szs ++ [Value.ref T0]).toArray 0) :: (T0, tupO [.int 1 u1, .int 1 u2]) :: rest) :=
    (S.grow (own := [(l, listOf (szs ++ [Value.ref T0]).toArray 0), (T0, tupO [.int 1 u1, .int 1 u2])]) (own8 hO) (S.tab.mono hrst) S.cT).restat fun p hp => hp
  have hitems : ListR (PairR ((l, listOf (szs ++ [Value.ref T0]).toArray 0) :: (T0, tupO [.int 1 u1, .int 1 u2]) :: rest)) (szs ++ [Value.ref T0]) (ws ++ [(1, 1)]) :=
    (hws.imp fun _ _ x => PairR.imp hrst x).append ⟨⟨T0, u1, u2, rfl, .tail _ (.head _)⟩, trivial⟩
  have hpos' : ∀ p ∈ ws ++ [(1, 1)], 0 < p.1 ∧ 0 < p.2 := fun p hp => by
    rcases List.mem_append.mp hp with hp | hp
    · exact hpos p hp
    · rw [List.mem_singleton.mp hp]; exact ⟨by decide, by decide⟩
  have hlS : (l, listOf (szs ++ [Value.ref T0]).toArray 0) ∈ (l, listOf (szs ++ [Value.ref T0]).toArray 0) :: (T0, tupO [.int 1 u1, .int 1 u2]) :: rest := .head _
  have hnl := N1 _ (.head _)
  have st1' := hrst _ st1
  have st2' := hrst _ st2
  have hst0 : ∀ p ∈ stat, p ∈ (l, listOf (szs ++ [Value.ref T0]).toArray 0) :: (T0, tupO [.int 1 u1, .int 1 u2]) :: rest := fun p hp => hrst p (S.st p hp)
  have hne' : ∀ p ∈ led8 L ls lr sl secs ns ps rects nr us nu oT oA oB oC ((l, listOf (szs ++ [Value.ref T0]).toArray 0) :: (T0, tupO [.int 1 u1, .int 1 u2]) :: rest), @Ne Nat p.1 e ∧ @Ne Nat p.1 it := fun p hp => hne p (rC1 p hp)
  have N1' := reord N1 rC1
  generalize (l, listOf (szs ++ [Value.ref T0]).toArray 0) :: (T0, tupO [.int 1 u1, .int 1 u2]) :: rest = rest1 at S1 hitems hlS st1' st2' hst0 hne' N1'
  clear N N1 S hne hrst hO F in8 st1 st2 hsz hws
  have hlen : (szs ++ [Value.ref T0]).toArray.size = (ws ++ [(1, 1)]).length := by rw [List.size_toArray]; exact hitems.length
  have hw9 : (ws ++ [((1 : Int), (1 : Int))]).length ≤ 9 := by rw [List.length_append, List.length_singleton]; omega
  refine enum_turnsO (items := (szs ++ [Value.ref T0]).toArray) (m := m) rfl q1 q2 q3 he0 hi0 hnl.2.2 heL hiL hnl.2.1 hst hab F1 N1' hne'
    (LawJ L ls lr sl rest1 way W H rotb b b2 t0 tW tH) ⟨qs, rs, secs, rects, us, vs, fr, ns, nr, nu, nf, ps, oT, oA, oB, oC, rest1, rfl, M, S1⟩ ?_ ?_
  · intro i v Tt t m₁ news₁ h₁ gs₁ d₁ tk₁ oe oi ol hv hoe hoi hJ hg hnw hTt F₁ N₁
    obtain ⟨qs', rs', secs', rects', us', vs', fr', ns', nr', nu', nf', ps', oT', oA', oB', oC', rest', rfl, M', S'⟩ := hJ
    have hil : i < (szs ++ [Value.ref T0]).toArray.size := (Array.getElem?_eq_some_iff.mp hv).1
    rw [List.getElem?_toArray] at hv
    obtain ⟨p, hp, y, t1, t2, rfl, hy⟩ := hitems.has hv
    have hpp := hpos' p (List.mem_of_getElem? hp)
    rw [← lawTgt_eq]
    refine law_tgt ⟨B, F₁, X, T, rfl, rfl, by k_room, by k_units⟩ N₁ hTt (.tail _ (.tail _ (.tail _ (.tail _ (.tail _ (.tail _ (.tail _ (.tail _ (.tail _ (.tail _ (.tail _ (S'.st _ hy)))))))))))) fun h2 tk2 F2 N2 => ?_
    have hoff : OffAll L ls lr sl [(e, oe), (it, oi)] := fun z hz => by
      have k1 := hnw _ (.head _)
      have k2 := hnw _ (.tail _ (.head _))
      have k3 := hnw _ (.tail _ (.tail _ (.head _)))
      have k4 := hnw _ (.tail _ (.tail _ (.tail _ (.head _))))
      have k5 := hnw _ (.tail _ (.tail _ (.tail _ (.tail _ (.head _)))))
      have k6 := hnw _ (.tail _ (.tail _ (.tail _ (.tail _ (.tail _ (.head _))))))
      have k7 := hnw _ (.tail _ (.tail _ (.tail _ (.tail _ (.tail _ (.tail _ (.head _)))))))
      have k8 := hnw _ (.tail _ (.tail _ (.tail _ (.tail _ (.tail _ (.tail _ (.tail _ (.head _))))))))
      rcases List.mem_cons.mp hz with rfl | hz
      · exact ⟨Ne.symm k1.1, Ne.symm k2.1, Ne.symm k3.1, Ne.symm k4.1, Ne.symm k5.1, Ne.symm k6.1, Ne.symm k7.1, Ne.symm k8.1⟩
      · rw [List.mem_singleton.mp hz]
        exact ⟨Ne.symm k1.2, Ne.symm k2.2, Ne.symm k3.2, Ne.symm k4.2, Ne.symm k5.2, Ne.symm k6.2, Ne.symm k7.2, Ne.symm k8.2⟩
    have S2 := S'.grow (ps' := ps') hoff (S'.tab.mono fun _ => List.mem_append_right _) S'.cT
    have hol : (l, ol) ∈ rest' := by
      have a := (N₁ (l, ol) (.tail _ (.tail _ (.head _)))).1
      have b := (N₁ _ (.tail _ (.tail _ (.tail _ (.tail _ (.tail _ (.tail _ (.tail _ (.tail _ (.tail _ (.tail _ (.tail _ (S'.st _ hlS)))))))))))) ).1
      rw [a] at b
      have e : ol = _ := Option.some.inj b
      rw [e]; exact S'.st _ hlS
    have M2 := ((M'.set (x := Str.ofString "rid") (v := .int i t) (by decide)).set (x := Str.ofString "w") (v := .int p.1 t1) (by decide)).set (x := Str.ofString "h") (v := .int p.2 t2) (by decide)
    refine turn_body (stat := rest1) (rest := [(e, oe), (it, oi)] ++ rest') (b2 := b2) hC hk1 hk2 hw18 ⟨B, F2, X, T, rfl, rfl, by k_room, by k_units⟩ CH XB TB h360 hlr hls hsl (reord N2 rC2) S2 M2 (by omega) st1' st2' hWb hHb
      ((if_neg (by decide)).trans ((if_neg (by decide)).trans (if_pos rfl))) ((if_neg (by decide)).trans (if_pos rfl)) (if_pos rfl) hpp.1 hpp.2 hg ?_
    intro qs2 rs2 secs2 rects2 us2 vs2 fr2 ns2 nr2 nu2 nf2 ps2 oT2 oA2 oB2 oC2 own m2 h3 gs3 d3 tk3 hg3 F3 M3 N3 S3 hO3
    have heo : (e, oe) ∈ led8 L ls lr sl secs' ns' ps' rects' nr' us' nu' oT' oA' oB' oC' ([(e, oe), (it, oi)] ++ rest') := .tail _ (.tail _ (.tail _ (.tail _ (.tail _ (.tail _ (.tail _ (.tail _ (.head _))))))))
    have hio : (it, oi) ∈ led8 L ls lr sl secs' ns' ps' rects' nr' us' nu' oT' oA' oB' oC' ([(e, oe), (it, oi)] ++ rest') := .tail _ (.tail _ (.tail _ (.tail _ (.tail _ (.tail _ (.tail _ (.tail _ (.tail _ (.head _)))))))))
    refine ⟨rfl, h3, gs3, d3, tk3, m2, led8 L ls lr sl secs2 ns2 ps2 rects2 nr2 us2 nu2 oT2 oA2 oB2 oC2 (own ++ rest'), rfl, hg3, F3, reord N3 (rC3 hol), fun z hz => ?_, ⟨qs2, rs2, secs2, rects2, us2, vs2, fr2, ns2, nr2, nu2, nf2, ps2, oT2, oA2, oB2, oC2, own ++ rest', rfl, M3, S3.pick (fun z hz => ?_) (fun z hz => ?_) fun z hz => List.mem_append_right own (S'.st z hz)⟩⟩
    · rcases List.mem_append.mp (mem8 hz) with hz | hz
      · obtain ⟨r', hr', er⟩ := hz8 (secs' := secs') (ns' := ns') (ps' := ps') (rects' := rects') (nr' := nr') (us' := us') (nu' := nu') (oT' := oT') (oA' := oA') (oB' := oB') (oC' := oC') (rest' := rest') hz
        rw [← er]; exact hnw r' hr'
      · rcases List.mem_append.mp hz with hz | hz
        · exact ⟨Ne.symm (hO3 z hz _ heo), Ne.symm (hO3 z hz _ hio)⟩
        · exact hnw z (.tail _ (.tail _ (.tail _ (.tail _ (.tail _ (.tail _ (.tail _ (.tail _ hz))))))))
    · rcases List.mem_append.mp hz with hz | hz
      · exact .inl (List.mem_append_left _ hz)
      rcases List.mem_cons.mp hz with rfl | hz
      · exact .inr hoe
      rcases List.mem_cons.mp hz with rfl | hz
      · exact .inr hoi
      · exact .inl (List.mem_append_right own hz)
    · rcases List.mem_append.mp hz with hz | hz
      · exact List.mem_append_left _ hz
      · exact List.mem_append_right own (.tail _ (.tail _ hz))
  · intro h' gs' d' tk' m' news' hg' F' N' hJ
    obtain ⟨qs', rs', secs', rects', us', vs', fr', ns', nr', nu', nf', ps', oT', oA', oB', oC', rest', rfl, M', S'⟩ := hJ
    exact ret _ m' _ h' gs' d' tk' ⟨qs', rs', secs', rects', us', vs', fr', ns', nr', nu', nf', ps', oT', oA', oB', oC', rest', rfl, M', S'.restat fun p hp => S'.st p (hst0 p hp)⟩ (by omega) hg' F' N'
end
end Mine
namespace Mine
noncomputable def szFor : Stmt := lawBody.getD 7 (.Pass ⟨0, 0, 0, 0⟩)
noncomputable def szIter : Expr := match szFor with | .For _ i _ _ _ => i | _ => .Constant .none 0 ⟨0, 0, 0, 0⟩
noncomputable def szBody : List Stmt := match szFor with | .For _ _ b _ _ => b | _ => []
noncomputable def szTgt : Expr := match szFor with | .For t _ _ _ _ => t | _ => .Constant .none 0 ⟨0, 0, 0, 0⟩
noncomputable def szPos : Pos := match szFor with | .For _ _ _ _ p => p | _ => ⟨0, 0, 0, 0⟩
theorem szFor_eq : szFor = .For szTgt szIter szBody [] szPos := by kernel_rfl
theorem hold_side {M : Model} {A : Around} {E : Value → Shared → Prop} {s : Shared} {Q : Value → Shared → Prop} {vs : List Value} (h : Hold (wpAny M A (call (.ref 799) vs) Q E s)) : wpAny M A (call (.ref 799) vs) Q E s := h.get
theorem len_any {A : Around} {E : Value → Shared → Prop} {s : Shared} {w : World} {h₀ : Heap} {L nb : Addr} {xs : List Value} {n : Nat} {news : List (Addr × Obj)} {Q : Value → Shared → Prop} (N : News h₀ L s.heap news) (hm : (nb, listOf xs.toArray n) ∈ news) (hf : xs.toArray.size ≤ 900) (h : Q (.int (xs.toArray.size : Int) (s.toks + 1)) { s with toks := s.toks + 1 + 1 }) :
    wpAny (model PW w) A (call (.builtin "len") [.ref nb]) Q E s := PyProof.Rows.len_list ⟨_, (N _ hm).1, rfl, _, rfl⟩ (by omega) h
theorem sub_any {w : World} {A : Around} {E : Value → Shared → Prop} {s : Shared} {h₀ : Heap} {L : Addr} {news : List (Addr × Obj)} {value slice : Expr} {D : Addr} {xs : List Value} {k : Int} {n : Nat} {u : Tok} {x : Value} {Q : Value → Shared → Prop} (N : News h₀ L s.heap news) (hm : (D, listOf xs.toArray n) ∈ news) (hx : xs.toArray[k.toNat]? = some x) (h0 : 0 ≤ k) (h1 : k < 2 ^ 63) (h : Q x s)
    (hs : autoParam (subscripted slice false (.ref D) (.int k u) = operate [.ref D, .int k u] (getItem (.ref D) (.int k u))) Mine.aT11) (hg : autoParam (∀ r, letTemporaryGo value (.ref D) r = pure ()) Mine.aT12) :
    wpAny (model PW w) A (PyProof.Rows.subscriptTail value slice (.ref D) (.int k u)) Q E s :=
  PyProof.Rows.item_list ⟨_, (N _ hm).1, rfl, _, rfl⟩ h0 h1 hx h hs hg
local macro_rules | `(tactic| walk_at "call ref") => Mine.sHold "Mine.hold_side"
local macro_rules | `(tactic| walk_at "call builtin:len") => `(tactic| (k_here; k_dflt (refine' Mine.len_any ?N ?hm ?hf ?_; (case N => k_asm); (case hm => k_mem); (case hf => with_reducible assumption); k_whole)))
set_option hygiene false in
local macro_rules | `(tactic| walk_at "subscriptTail") => `(tactic| (k_here; k_dflt (refine' Mine.sub_any ?N ?hm ?hx ?h0 ?h1 ?_; (case N => k_asm); (case hm => k_mem); (case hx => first | with_reducible assumption | exact hx2 (by with_reducible assumption)); (case h0 | h1 => omega); k_whole)))
theorem rD1 {α : Type} {s : α} {a b c : List α} : ∀ q ∈ s :: (a ++ (b ++ c)), q ∈ a ++ (s :: (b ++ c)) := perm_of [a, [s], b] [1, 0, 2] c
theorem rD2 {α : Type} {s D : α} {a b c : List α} : ∀ q ∈ a ++ (s :: ((D :: b) ++ c)), q ∈ s :: D :: (a ++ (b ++ c)) := by
  intro q hq; simp only [List.mem_cons, List.mem_append, List.cons_append] at hq ⊢; grind
section
variable {w : World} {dp un : Nat} {gd : Option (List Code)} {env : Env} {outer : List Env} {A₀ : Around} {base h₀ : Heap} {L : Addr} {m : Str → Option Value} {p : Program} {loose : List Str} {mean : ExcName → Option Value} {mg mb : Str → Option Value} {news : List (Addr × Obj)} {s : Shared} {Q E : Value → Shared → Prop}
variable {fa : Addr} {cd : Value}
/-- range(0, len(numbers), 2) -/
theorem sz_iter {nb : Addr} {xs : List Value} {nn : Nat} (Cc : Cx 12 w dp un (LE L fa cd) [] A₀ base h₀ L m p loose mean mg mb s.heap) (N : News h₀ L s.heap news) (hnb : (nb, listOf xs.toArray nn) ∈ news) (hm : m (Str.ofString "numbers") = some (.ref nb)) (hlen : xs.toArray.size ≤ 900)
    (ret : ∀ r u1 u2 u3 h' tk', IsRange h' r 0 (xs.toArray.size : Int) 2 u1 u2 u3 → Fr h₀ L h' m → News h₀ L h' news → Q (.ref r) { s with heap := h', toks := tk' }) :
    wpAny (model PW w) (AR dp un gd (LE L fa cd) []) (eval szIter (LE L fa cd)) (fun v s' => Hold (Q v s')) E s := by
  obtain ⟨B, F, X, T, -, -, hdp, hun⟩ := Cc
  have e1 : szIter = szIter := rfl
  (conv at e1 => rhs; whnf)
  rw [e1]
  clear e1
  unfold LE at *
  have e2 : lawScope = lawScope := rfl
  (conv at e2 => rhs; whnf)
  rw [e2]
  clear e2
  k_steps
  exact Hold.mk (ret _ _ _ _ _ _ (by assumption) (by assumption) (by assumption))
theorem sz_body {nb sz : Addr} {xs szs : List Value} {nn nz i : Nat} {W H z1 z2 : Int} {t tW tH u1 u2 : Tok} {Q : Flow → Shared → Prop} (Cc : Cx 12 w dp un (LE L fa cd) [] A₀ base h₀ L m p loose mean mg mb s.heap) (N : News h₀ L s.heap ((sz, listOf szs.toArray nz) :: news)) (hsz : ∀ p ∈ news, p.1 ≠ sz) (hszl : szs.length ≤ 900)
    (hnb : (nb, listOf xs.toArray nn) ∈ news) (hlen : xs.toArray.size ≤ 900) (hx1 : xs.toArray[((i * 2 : Nat) : Int).toNat]? = some (.int z1 u1)) (hx2 : ((i * 2 : Nat) : Int) + 1 < (xs.toArray.size : Int) → xs.toArray[(((i * 2 : Nat) : Int) + 1).toNat]? = some (.int z2 u2)) (hi2 : i * 2 < 900) (hW : 1 ≤ W) (hH : 1 ≤ H)
    (m0 : m (Str.ofString "numbers") = some (.ref nb)) (m1 : m (Str.ofString "k") = some (.int (i * 2 : Nat) t)) (m2 : m (Str.ofString "width") = some (.int W tW)) (m3 : m (Str.ofString "height") = some (.int H tH)) (m4 : m (Str.ofString "sizes") = some (.ref sz))
    (ret : ∀ D v1 v2 t1 t2 nz' sv h' tk', 1 ≤ v1 → 1 ≤ v2 → Fr h₀ L h' (fun y => if y = Str.ofString "second" then some sv else m y) → News h₀ L h' ((sz, listOf (szs ++ [Value.ref D]).toArray nz') :: (D, tupO [.int v1 t1, .int v2 t2]) :: news) → (∀ r ∈ (sz, listOf szs.toArray nz) :: news, @Ne Nat r.1 D) → Q .next { s with heap := h', toks := tk' }) :
    wpAny (model PW w) (AR dp un gd (LE L fa cd) []) (execs szBody (LE L fa cd)) Q E s := by
  obtain ⟨B, F, X, T, -, -, hdp, hun⟩ := Cc
  have e1 : szBody = szBody := rfl
  (conv at e1 => rhs; whnf)
  rw [e1]
  clear e1
  unfold LE at *
  have e2 : lawScope = lawScope := rfl
  (conv at e2 => rhs; whnf)
  rw [e2]
  clear e2
  k_steps
  all_goals
    refine Hold.mk ?_
    rename Fr _ _ _ _ => Fa
    rename News _ _ _ _ => Na
    refine law_side (by ktr_rel) Na hW fun v1 w1 h1 tk1 hv1 hv1' F1 N1 => ?_
    clear Fa Na
    k_steps
    refine Hold.mk ?_
    refine law_side (by ktr_rel) N1 hH fun v2 w2 h2 tk2 hv2 hv2' F2 N2 => ?_
    clear F1 N1
    k_steps
    rename Fr _ _ _ _ => Fz
    rename News _ _ _ _ => Nz
    rename _ ∧ AllLt _ _ => l1
    rw [List.push_toArray] at Nz
    exact ret _ _ _ _ _ _ _ _ _ hv1 hv2 Fz (cb_drop Nz fun q hq => led6 q hq) (List.forall_mem_cons.mpr ⟨Nat.ne_of_lt l1.1, fun r hr => Nat.ne_of_lt (allLt_all l1.2 r hr)⟩)
noncomputable def szKPos : Pos := match szTgt with | .Name _ p => p | _ => ⟨0, 0, 0, 0⟩
theorem szTgt_eq : szTgt = .Name (Str.ofString "k") szKPos := by kernel_rfl
theorem range_ok : ∀ n : Nat, n < 15 → Builtin.Range.small 0 (n : Int) 2 = true ∧ Builtin.Range.rangeSize 0 (n : Int) 2 = (((n + 1) / 2 : Nat) : Int) := by decide
/-- the sizes told by the script -/
theorem sz_for {nb sz : Addr} {xs : List Value} {nn nz : Nat} {W H : Int} {tW tH : Tok} {Q : Flow → Shared → Prop} (Cc : Cx 30 w dp un (LE L fa cd) [] A₀ base h₀ L m p loose mean mg mb s.heap) (N : News h₀ L s.heap ((sz, listOf ([] : List Value).toArray nz) :: news)) (hsz : ∀ p ∈ news, p.1 ≠ sz)
    (hnb : (nb, listOf xs.toArray nn) ∈ news) (hlen : xs.toArray.size ≤ 14) (hx : ∀ j, j < xs.toArray.size → ∃ z t, xs.toArray[j]? = some (.int z t)) (hW : 1 ≤ W) (hH : 1 ≤ H)
    (m0 : m (Str.ofString "numbers") = some (.ref nb)) (m2 : m (Str.ofString "width") = some (.int W tW)) (m3 : m (Str.ofString "height") = some (.int H tH)) (m4 : m (Str.ofString "sizes") = some (.ref sz))
    (ret : ∀ szs ws own nz' m' h' tk', ListR (PairR own) szs ws → (∀ p ∈ ws, 1 ≤ p.1 ∧ 1 ≤ p.2) → ws.length ≤ 8 → Fr h₀ L h' m' → (∀ x, x ≠ Str.ofString "k" → x ≠ Str.ofString "second" → m' x = m x) → News h₀ L h' ((sz, listOf szs.toArray nz') :: (own ++ news)) → Own ((sz, listOf ([] : List Value).toArray nz) :: news) own → Q .next { s with heap := h', toks := tk' }) :
    wpAny (model PW w) (AR dp un gd (LE L fa cd) []) (exec szFor (LE L fa cd)) Q E s := by
  obtain ⟨B, F, X, T, -, -, hdp, hun⟩ := Cc
  rw [szFor_eq]
  refine wpAny_For (wpAny_mono (sz_iter (Q := fun v s' => wpAny (model PW w) (AR dp un gd (LE L fa cd) []) (pyIter v) _ E s') ⟨B, F, X, T, rfl, rfl, by k_room, by k_units⟩ N (.tail _ hnb) m0 (by omega) ?_) (fun _ _ x => x.get) fun _ _ x => x) (fun _ => by with_unfolding_all rfl)
  intro r u1 u2 u3 h1 tk1 hr F1 N1
  have hrg := range_ok xs.toArray.size (by omega)
  refine wpAny_pyIter_range hr hrg.1 ?_
  rw [hrg.2]
  have up : ∀ b o, h1.get? b = some o → (h1.push { cls := .type "range_iterator", data := .fields #[rawInt 0, rawInt (((xs.toArray.size + 1) / 2 : Nat) : Int), rawInt 2] }).get? b = some o := fun b o e => Heap.get?_push_of_some _ e
  have hI : (h1.push { cls := .type "range_iterator", data := .fields #[rawInt 0, rawInt (((xs.toArray.size + 1) / 2 : Nat) : Int), rawInt 2] }).get? h1.objs.size = some { cls := .type "range_iterator", data := .fields #[rawInt 0, rawInt (((xs.toArray.size + 1) / 2 : Nat) : Int), rawInt 2] } := Heap.get?_push_size _ rfl
  have hlt : ∀ p ∈ (sz, listOf ([] : List Value).toArray nz) :: news, @LT.lt Nat _ p.1 h1.objs.size := fun p hp => Heap.lt_size (N1 p hp).1
  have hL : @LT.lt Nat _ L h1.objs.size := F1.ns.lt
  have fresh : h₀.get? h1.objs.size = none := by
    cases e : h₀.get? h1.objs.size with
    | none => rfl
    | some o => exact absurd (Heap.lt_size (F1.keep _ o e)) (Nat.lt_irrefl _)
  have F2 := F1.keeps up
  have N2 := N1.grown up
  generalize h1.objs.size = I at hI hlt hL fresh F2 N2 ⊢
  generalize h1.push { cls := .type "range_iterator", data := .fields #[rawInt 0, rawInt (((xs.toArray.size + 1) / 2 : Nat) : Int), rawInt 2] } = g1 at hI F2 N2 ⊢
  refine codeAny_forLoop_anyU (m := m) (news := (sz, listOf ([] : List Value).toArray nz) :: news) (Walks.range rfl I 0 2 ((xs.toArray.size + 1) / 2)) (fun hm => Nat.ne_of_lt hL (List.mem_singleton.mp hm)) (fun b hb => by rw [List.mem_singleton.mp hb]; exact fresh) (fun p hp hm => Nat.ne_of_lt (hlt p hp) (List.mem_singleton.mp hm)) (by simpa using hI) F2 N2 (fun i s' v Q' _ hq => by rw [szTgt_eq]; exact wpAny_pure hq)
    (fun i m' news' => ∃ szs ws own nz', news' = (sz, listOf szs.toArray nz') :: (own ++ news) ∧ ListR (PairR own) szs ws ∧ ws.length = i ∧ (∀ p ∈ ws, 1 ≤ p.1 ∧ 1 ≤ p.2) ∧ Own ((sz, listOf ([] : List Value).toArray nz) :: news) own ∧ ∀ x, x ≠ Str.ofString "k" → x ≠ Str.ofString "second" → m' x = m x)
    ⟨[], [], [], nz, rfl, trivial, rfl, (fun _ h => nomatch h), own_nil, fun _ _ _ => rfl⟩ ?_ ?_
  · intro i v m₁ news₁ s₁ own' hi hP hJ hnw₁ hsub _ hmem hst' F₁ N₁
    obtain ⟨szs, ws, own, nz', rfl, hl, hwl, hw1, hO, hmm⟩ := hJ
    obtain ⟨t, rfl⟩ := hP
    rw [szTgt_eq]
    have e2 : (0 : Int) + (i : Int) * 2 = ((i * 2 : Nat) : Int) := by omega
    rw [e2]
    have hi2 : i * 2 < xs.toArray.size := by omega
    obtain ⟨z1, v1, hz1⟩ := hx (i * 2) hi2
    obtain ⟨z2, v2, hz2⟩ : ∃ z2 v2, ((i * 2 : Nat) : Int) + 1 < (xs.toArray.size : Int) → xs.toArray[(((i * 2 : Nat) : Int) + 1).toNat]? = some (.int z2 v2) := by
      by_cases h : i * 2 + 1 < xs.toArray.size
      · obtain ⟨z, t', e⟩ := hx (i * 2 + 1) h
        refine ⟨z, t', fun _ => ?_⟩
        rw [show (((i * 2 : Nat) : Int) + 1).toNat = i * 2 + 1 by omega]
        exact e
      · exact ⟨0, 0, fun h' => absurd h' (by omega)⟩
    have hIo : ∃ o, s₁.heap.get? I = some o := ⟨_, hst'⟩
    obtain ⟨oI, hoI⟩ := hIo
    have hIm : (I, oI) ∈ own' := hmem I (List.mem_singleton.mpr rfl) fresh oI hoI
    have hszI : @Ne Nat sz I := fun e => hnw₁ _ (.head _) (List.mem_singleton.mpr e)
    refine wpAny_assign_Name (storeX_L F₁ N₁ (fun h2 F3 N3 => ?_) rfl rfl)
    refine sz_body (news := own' ++ (own ++ news)) (i := i) ⟨B, F3, X, T, rfl, rfl, by k_room, by k_units⟩ (reord N3 rD1) ?_ (by rw [hl.length]; omega) (List.mem_append_right _ (List.mem_append_right _ hnb)) (by omega) (by rw [Int.toNat_natCast]; exact hz1) hz2 (by omega) hW hH
      ((if_neg (by decide)).trans ((hmm _ (by decide) (by decide)).trans m0)) (if_pos rfl) ((if_neg (by decide)).trans ((hmm _ (by decide) (by decide)).trans m2)) ((if_neg (by decide)).trans ((hmm _ (by decide) (by decide)).trans m3)) ((if_neg (by decide)).trans ((hmm _ (by decide) (by decide)).trans m4)) fun D v1' v2' t1 t2 nz2 sv h3 tk3 hv1 hv2 F4 N4 hD => ?_
    · intro p hp
      rcases List.mem_append.mp hp with hp | hp
      · have e := List.mem_singleton.mp (hsub p hp)
        rw [e]; exact Ne.symm hszI
      rcases List.mem_append.mp hp with hp | hp
      · exact Ne.symm (hO p hp _ (.head _))
      · exact hsz p hp
    · refine ⟨rfl, h3, tk3, _, (sz, listOf (szs ++ [Value.ref D]).toArray nz2) :: (((D, tupO [.int v1' t1, .int v2' t2]) :: own) ++ news), rfl, F4, reord N4 rD2, ?_, szs ++ [.ref D], ws ++ [(v1', v2')], _, nz2, rfl, ?_, ?_, ?_, ?_, ?_⟩
      · intro p hp hm
        have e := List.mem_singleton.mp hm
        rcases List.mem_cons.mp hp with rfl | hp
        · exact hszI e
        rcases List.mem_cons.mp hp with rfl | hp
        · exact hD (I, oI) (.tail _ (List.mem_append_left _ hIm)) e.symm
        · exact hnw₁ p (.tail _ hp) hm
      · exact (hl.imp fun _ _ x => PairR.imp (fun p hp => .tail _ hp) x).append ⟨⟨D, t1, t2, rfl, .head _⟩, trivial⟩
      · rw [List.length_append, hwl]; rfl
      · intro p hp
        rcases List.mem_append.mp hp with hp | hp
        · exact hw1 p hp
        · rw [List.mem_singleton.mp hp]; exact ⟨hv1, hv2⟩
      · exact own_cons (List.forall_mem_cons.mpr ⟨(hD (sz, listOf szs.toArray nz') (.head _) : @Ne Nat sz D), fun r hr => hD r (.tail _ (List.mem_append_right _ (List.mem_append_right _ hr)))⟩) hO
      · intro x h1 h2
        exact (if_neg h2).trans ((if_neg h1).trans (hmm x h1 h2))
  · intro h' tk m' news' F' N' _ hJ
    obtain ⟨szs, ws, own, nz', rfl, hl, hwl, hw1, hO, hmm⟩ := hJ
    exact ret szs ws own nz' m' h' tk hl hw1 (by omega) F' hmm N' hO
end
end Mine
namespace Mine
section
variable {w : World} {dp un : Nat} {gd : Option (List Code)} {env : Env} {A₀ : Around} {base h₀ : Heap} {L : Addr} {m : Str → Option Value} {p : Program} {loose : List Str} {mean : ExcName → Option Value} {mg mb : Str → Option Value} {news : List (Addr × Obj)} {s : Shared} {Q E : Value → Shared → Prop}
theorem add_any3 {C b db ls lr sf : Addr} {Wb Hb : Value} {rotb : Bool} {hb kb : _} {wi hi : Int} {t5 t6 : Tok} {secs rects : List Value} {qs : List Q4} {ns nr : Nat} {ps : Array Value}
    (hC : C ∈ BX) (Cc : Cx 16 w dp un env [] A₀ base h₀ L m p loose mean mg mb s.heap) (CH : CodeHd base 364 360) (XB : (Mine.K w.params).In base) (TB : Top p loose mean mg mb base)
    (N : News h₀ L s.heap ((ls, listOf secs.toArray ns) :: (360, tabObj ps) :: (lr, listOf rects.toArray nr) :: news)) (hsz : secs.length ≤ 900) (hsr : rects.length ≤ 900) (hn : ∀ p ∈ (lr, listOf rects.toArray nr) :: news, p.1 ≠ ls) (hn2 : ∀ p ∈ (lr, listOf rects.toArray nr) :: news, p.1 ≠ 360) (hn3 : ∀ p ∈ news, p.1 ≠ lr) (hne : ls ≠ 360) (hT : TabOk ps news)
    (h1 : (b, instObj C db) ∈ news) (h2 : (db, dictOf (boxDict Wb Hb (.bool rotb) lr sf ls hb kb) 8) ∈ news) (hq : SecsIn news secs qs)
    (hqs : ∀ q ∈ qs, 0 ≤ q.2.2.1 ∧ q.2.2.1 < bigI ∧ 0 ≤ q.2.2.2 ∧ q.2.2.2 < bigI) (hw : 0 < wi) (hh : 0 < hi) (hab : AllBare s.gens)
    (hnd : ∀ (i j : Nat) (q q' : Q4), qs[i]? = some q → qs[j]? = some q' → i ≠ j → q ≠ q')
    (retS : ∀ j n fl q r' d' hs ks t1 t2 t3 t4 refs ns' nr' h' tk' gs' dr' ps' own, qs[j]? = some q → SelOk (choiceOf C) qs wi hi rotb j n fl → AllBare gs' → Fr h₀ L h' m →
      News h₀ L h' ((ls, listOf (secs.eraseIdx j ++ refs).toArray ns') :: (360, tabObj ps') :: (lr, listOf (rects ++ [Value.ref r']).toArray nr') :: (own ++ news)) →
      (r', instObj 203 d') ∈ own → (d', dictOf (secDict (.int (if fl then hi else wi) t1) (.int (if fl then wi else hi) t2) (.int q.1 t3) (.int q.2.1 t4) .none hs ks) 5) ∈ own →
      SecsIn own refs (cutBy (splitOf C) q.1 q.2.1 q.2.2.1 q.2.2.2 (if fl then hi else wi) (if fl then wi else hi)) →
      (∀ q ∈ own, ∀ r ∈ (ls, listOf secs.toArray ns) :: (360, tabObj ps) :: (lr, listOf rects.toArray nr) :: news, @LT.lt Nat _ r.1 q.1) → TabOk ps' (own ++ news) → Q (.ref r') { s with heap := h', gens := gs', drawn := dr', toks := tk' })
    (retN : ∀ h' tk' gs' dr' ps' own, SelNone (choiceOf C) qs wi hi rotb → AllBare gs' → Fr h₀ L h' m → News h₀ L h' ((ls, listOf secs.toArray ns) :: (360, tabObj ps') :: (lr, listOf rects.toArray nr) :: (own ++ news)) →
      (∀ q ∈ own, ∀ r ∈ (ls, listOf secs.toArray ns) :: (360, tabObj ps) :: (lr, listOf rects.toArray nr) :: news, @LT.lt Nat _ r.1 q.1) → TabOk ps' (own ++ news) → Q .none { s with heap := h', gens := gs', drawn := dr', toks := tk' }) :
    wpAny (model PW w) (AR dp un gd env []) (call (.ref 373) [.ref b, .int wi t5, .int hi t6]) Q E s := by
  obtain ⟨B, F, X, T, hf, hk, hdp, hun⟩ := Cc
  refine wpAny_call ?_
  k_dflt kts_go
  rename_i g₁ L₁ h₁ FG₁ F₁ N₁ B₁ X₁ T₁
  refine add_body hC ⟨B₁, F₁, X₁, T₁, rfl, rfl, by k_room, by k_units⟩ CH XB TB N₁ hsz hsr hn hn2 hn3 hne hT h1 h2 hq hqs hw hh hab hnd (by rfl) (by rfl) (by rfl) (by rfl) ?_ ?_
  · intro j n fl q r' d' hs ks t1 t2 t3 t4 refs ns' nr' m' h' tk' gs' dr' ps' own hqj hS hab' F' N' n1 n2 hc ho hT'
    clear F₁ N₁ N F
    k_steps
    rename Fr _ _ _ _ => Fz
    rename News _ _ _ _ => Nz
    obtain ⟨F₀, oC, _, N₀⟩ := unbase FG₁ Fz Nz
    exact retS j n fl q r' d' hs ks t1 t2 t3 t4 refs ns' nr' _ _ gs' dr' ps' own hqj hS hab' F₀ (cb_drop N₀ fun _ => .tail _) n1 n2 hc ho hT'
  · intro m' h' tk' gs' dr' ps' own h₀' hsn hab' Tu B' F' N' ho hT'
    clear F₁ N₁ N F
    obtain ⟨h₂, T₂, F₂, _, N₂⟩ := leaveT B FG₁ hf Tu F' N'
    obtain ⟨F₀, N₀⟩ := turnNil T₂ F₂ N₂
    k_steps
    exact retN _ _ gs' dr' ps' own hsn hab' F₀ N₀ ho hT'
end
end Mine
namespace Mine
open PyProof.V PySem.SeqAt
noncomputable def lawAt (i : Nat) : Stmt := lawBody.getD i (.Pass ⟨0, 0, 0, 0⟩)
local macro_rules | `(tactic| walk_at "call ref") => Mine.sRef "Mine.hold_least Mine.hold_fit Mine.hold_rl Mine.hold_add"
local macro_rules | `(tactic| walk_at "compareOp Eq ref ref") => Mine.sHold "Mine.hold_eq"
theorem eq00 {A : Around} {s : Shared} {E : Value → Shared → Prop} {w : World} {prog : Program} {h₀ : Heap} {L a b : Addr} {led : List (Addr × Obj)} {n k : Nat} {Q : Value → Shared → Prop} (N : News h₀ L s.heap led) (ha : (a, listOf ([] : List Value).toArray n) ∈ led) (hb : (b, listOf ([] : List Value).toArray k) ∈ led)
    (hu : A.units + 64 < cLine) (h : Q (.bool true) s) : wpAny (model prog w) A (compareOp .Eq (.ref a) (.ref b)) Q E s := by
  have r1 : Reads s.heap (.ref a) (.list []) [a] := Reads.list (N _ ha).1 rfl rfl .nil
  have r2 : Reads s.heap (.ref b) (.list []) [b] := Reads.list (N _ hb).1 rfl rfl .nil
  refine eq_dataH_same r1 r2 (by with_unfolding_all rfl) (by with_unfolding_all rfl) hu (by simp [noMix, noMixAll]) ?_
  rw [show PySem.Spec.same (.list []) (.list []) = true by simp [PySem.Spec.same, PySem.Spec.sameAll]]
  exact h
theorem fitV_in {k : Nat} {W H : Int} : ¬ fitV k W H W H = none := by
  have h : ¬ (W > W ∨ H > H) := by omega
  unfold fitV
  split
  · unfold fitBssf; rw [if_neg h]; exact fun e => nomatch e
  · unfold fitBlsf; rw [if_neg h]; exact fun e => nomatch e
  · unfold fitBaf; rw [if_neg h]; exact fun e => nomatch e
section
variable {w : World} {dp un : Nat} {gd : Option (List Code)} {env : Env} {outer : List Env} {A₀ : Around} {base h₀ : Heap} {L : Addr} {m : Str → Option Value} {p : Program} {loose : List Str} {mean : ExcName → Option Value} {mg mb : Str → Option Value} {news : List (Addr × Obj)} {s : Shared} {Q E : Value → Shared → Prop}
variable {fa : Addr} {cd : Value}
/-- at the end fitness is asked of 1 by 1 -/
theorem law_if {C b db ls lr sf : Addr} {Wb Hb : Value} {rotb : Bool} {hb kb : _} {way : Nat} {t0 : Tok} {secs : List Value} {qs : List Q4} {ns : Nat} {ps : Array Value} {fr : Addr} {vs : List Value} {nf : Nat} {Q : Flow → Shared → Prop}
    (hC : C ∈ BX) (hk : choiceOf C = way % 3) (Cc : Cx 20 w dp un (LE L fa cd) [] A₀ base h₀ L m p loose mean mg mb s.heap) (CH : CodeHd base 364 360) (XB : (Mine.K w.params).In base) (TB : Top p loose mean mg mb base)
    (N : News h₀ L s.heap ((ls, listOf secs.toArray ns) :: (360, tabObj ps) :: news)) (hsz : secs.length ≤ 900) (hn : ∀ p ∈ news, p.1 ≠ ls) (hn2 : ∀ p ∈ news, p.1 ≠ 360) (hne : ls ≠ 360) (hT : TabOk ps news)
    (h1 : (b, instObj C db) ∈ news) (h2 : (db, dictOf (boxDict Wb Hb (.bool rotb) lr sf ls hb kb) 8) ∈ news) (hq : SecsIn news secs qs)
    (hqs : ∀ q ∈ qs, 0 ≤ q.2.2.1 ∧ q.2.2.1 < bigI ∧ 0 ≤ q.2.2.2 ∧ q.2.2.2 < bigI) (hab : AllBare s.gens)
    (m1 : m (Str.ofString "way") = some (.int way t0)) (m2 : m (Str.ofString "free") = some (.ref fr)) (m5 : m (Str.ofString "rot") = some (.bool rotb)) (m7 : m (Str.ofString "box") = some (.ref b))
    (hfr : (fr, listOf vs.toArray nf) ∈ news) (hfq : ListR (TupAt4 news) vs qs) (hqz : qs.length ≤ 900)
    (ret : ∀ h' tk' gs' d' ps' own, AllBare gs' → Fr h₀ L h' m → News h₀ L h' ((ls, listOf secs.toArray ns) :: (360, tabObj ps') :: (own ++ news)) → Own ((ls, listOf secs.toArray ns) :: (360, tabObj ps) :: news) own → TabOk ps' (own ++ news) → Q .next { s with heap := h', gens := gs', drawn := d', toks := tk' }) :
    wpAny (model PW w) (AR dp un gd (LE L fa cd) []) (exec (lawAt 13) (LE L fa cd)) Q E s := by
  obtain ⟨B, F, X, T, -, -, hdp, hun⟩ := Cc
  have e1 : (lawAt 13) = (lawAt 13) := rfl
  (conv at e1 => rhs; whnf)
  rw [e1]
  clear e1
  unfold LE at *
  have e2 : lawScope = lawScope := rfl
  (conv at e2 => rhs; whnf)
  rw [e2]
  clear e2
  k_steps
  refine Hold.mk ?_
  refine fitness_any hC (by ktr_rel) CH XB TB N hsz hn hn2 hne hT h1 h2 hq hqs (by decide) (by decide) hab ?_ ?_
  · intro j n fl t h' tk' gs' d' ps' own hS hab' F' N' hO hT'
    rw [hk] at hS
    clear F N hab
    k_steps
    refine Hold.mk ?_
    rw [fmod3]
    refine law_least (k := way % 3) (by ktr_rel) N' (.tail _ (.tail _ (List.mem_append_right own hfr))) (hfq.imp fun _ _ x => x.imp fun p hp => .tail _ (.tail _ (List.mem_append_right own hp))) hqs (by decide) (by decide) (Nat.mod_lt _ (by decide)) hqz fun v3 own3 h3' tk3' hL3 F3' N3' hO3 => ?_
    obtain ⟨t3, rfl⟩ := hL3.of_least (least_some hS).1 (least_some hS).2
    clear F' N'
    k_steps
    · rename @Ne Int _ _ => h9; exact absurd rfl h9
    · exact ret _ _ _ _ ps' own hab' (by k_asm) (reord N3' fun q hq => List.mem_append_right own3 hq) (own_ltX (own1 := []) hO) hT'
  · intro h' tk' gs' d' ps' own hS hab' F' N' hO hT'
    rw [hk] at hS
    clear F N hab
    k_steps
    refine Hold.mk ?_
    rw [fmod3]
    refine law_least (k := way % 3) (by ktr_rel) N' (.tail _ (.tail _ (List.mem_append_right own hfr))) (hfq.imp fun _ _ x => x.imp fun p hp => .tail _ (.tail _ (List.mem_append_right own hp))) hqs (by decide) (by decide) (Nat.mod_lt _ (by decide)) hqz fun v3 own3 h3' tk3' hL3 F3' N3' hO3 => ?_
    rw [least_none hS] at hL3
    obtain rfl := hL3.of_nil
    clear F' N'
    k_steps
    exact ret _ _ _ _ ps' own hab' (by k_asm) (reord N3' fun q hq => List.mem_append_right own3 hq) (own_ltX (own1 := []) hO) hT'
/-- the second bin is empty, and takes one as large as itself -/
theorem law_ret {C b db ls lr sf sec ds : Addr} {rotb : Bool} {hb kb : _} {W H : Int} {tW tH t1 t2 u1 u2 u3 u4 : Tok} {rid : Value} {hs ks : _} {nr : Nat} {ps : Array Value} {Q : Flow → Shared → Prop}
    (hC : C ∈ BX) (Cc : Cx 24 w dp un (LE L fa cd) [] A₀ base h₀ L m p loose mean mg mb s.heap) (CH : CodeHd base 364 360) (XB : (Mine.K w.params).In base) (TB : Top p loose mean mg mb base)
    (N : News h₀ L s.heap ((ls, listOf [Value.ref sec].toArray 1) :: (360, tabObj ps) :: (lr, listOf ([] : List Value).toArray nr) :: news)) (hn : ∀ p ∈ (lr, listOf ([] : List Value).toArray nr) :: news, p.1 ≠ ls) (hn2 : ∀ p ∈ (lr, listOf ([] : List Value).toArray nr) :: news, p.1 ≠ 360) (hn3 : ∀ p ∈ news, p.1 ≠ lr) (hne : ls ≠ 360) (hT : TabOk ps news)
    (h1 : (b, instObj C db) ∈ news) (h2 : (db, dictOf (boxDict (.int W t1) (.int H t2) (.bool rotb) lr sf ls hb kb) 8) ∈ news) (h3 : (sec, instObj 203 ds) ∈ news) (h4 : (ds, dictOf (secDict (.int W u1) (.int H u2) (.int 0 u3) (.int 0 u4) rid hs ks) 5) ∈ news)
    (hW : 0 < W) (hH : 0 < H) (hWb : W < bigI) (hHb : H < bigI) (hab : AllBare s.gens)
    (m2 : m (Str.ofString "width") = some (.int W tW)) (m3 : m (Str.ofString "height") = some (.int H tH)) (m7 : m (Str.ofString "other") = some (.ref b))
    (ret : ∀ h' tk' gs' d' led ps', (360, tabObj ps') ∈ led → AllBare gs' → Fr h₀ L h' m → News h₀ L h' led → Q (.ret (.bool true)) { s with heap := h', gens := gs', drawn := d', toks := tk' }) :
    wpAny (model PW w) (AR dp un gd (LE L fa cd) []) (exec (lawAt 14) (LE L fa cd)) Q E s := by
  obtain ⟨B, F, X, T, -, -, hdp, hun⟩ := Cc
  have e1 : (lawAt 14) = (lawAt 14) := rfl
  (conv at e1 => rhs; whnf)
  rw [e1]
  clear e1
  unfold LE at *
  have e2 : lawScope = lawScope := rfl
  (conv at e2 => rhs; whnf)
  rw [e2]
  clear e2
  k_steps
  refine Hold.mk ?_
  refine rect_list_any (rects := []) (rs := []) hC (by ktr_rel) N (.tail _ (.tail _ (.tail _ h1))) (.tail _ (.tail _ (.tail _ h2))) (.tail _ (.tail _ (.head _))) trivial (by decide) hab ?_
  intro S ts c own h' tk' gs' dr' hab' F' N' hts ho hS
  obtain rfl : ts = [] := by
    cases ts with
    | nil => rfl
    | cons a l => exact hts.elim
  clear F N hab
  k_steps
  refine Hold.mk ?_
  rename Fr _ _ _ _ => F2
  rename News _ _ _ _ => N2
  refine eq00 N2 (.tail _ (.head _)) (.head _) (by k_units) ?_
  have N3 := reord N2 fun q hq => .tail _ (.tail _ (List.mem_append_right own hq))
  have w1 : (b, instObj C db) ∈ (ls, listOf [Value.ref sec].toArray 1) :: (360, tabObj ps) :: (lr, listOf ([] : List Value).toArray nr) :: news := .tail _ (.tail _ (.tail _ h1))
  have w2 : (db, dictOf (boxDict (.int W t1) (.int H t2) (.bool rotb) lr sf ls hb kb) 8) ∈ (ls, listOf [Value.ref sec].toArray 1) :: (360, tabObj ps) :: (lr, listOf ([] : List Value).toArray nr) :: news := .tail _ (.tail _ (.tail _ h2))
  clear N2
  k_steps
  refine Hold.mk ?_
  refine add_any3 (secs := [.ref sec]) (rects := []) (qs := [(0, 0, W, H)]) hC (by ktr_rel) CH XB TB N3 (Nat.le_of_ble_eq_true rfl : (1 : Nat) ≤ 900) (Nat.zero_le _) hn hn2 hn3 hne hT h1 h2 ⟨⟨sec, ds, hs, ks, u1, u2, u3, u4, rid, rfl, h3, h4⟩, trivial⟩
    (fun q hq => by rw [List.mem_singleton.mp hq]; exact ⟨Int.le_of_lt hW, hWb, Int.le_of_lt hH, hHb⟩) hW hH hab' (fun i j q q' h1 h2 hij => ?_) ?_ ?_
  · obtain ⟨hi, _⟩ := List.getElem?_eq_some_iff.mp h1
    obtain ⟨hj, _⟩ := List.getElem?_eq_some_iff.mp h2
    have hi' : i < 1 := hi
    have hj' : j < 1 := hj
    omega
  · intro j n fl q r' d' hs ks t1 t2 t3 t4 refs ns' nr' h2 tk2 gs2 dr2 ps2 own2 _ _ hab2 F4 N4 _ _ _ _ _
    clear F2 N3
    k_steps
    refine ret _ _ _ _ _ ps2 ?_ hab2 (by k_asm) N4
    exact .tail _ (.head _)
  · intro h2 tk2 gs2 dr2 ps2 own2 hSel
    exact absurd (hSel _ (.head _)).1 fitV_in
end
end Mine
namespace Mine
theorem le14 {a b c n : Nat} (h1 : a = b) (h2 : b = min (min 17 n - 3) c) : a ≤ 14 := by omega
theorem lawBody_eq : lawBody = [lawAt 0, lawAt 1, lawAt 2, lawAt 3, lawAt 4, lawAt 5, lawAt 6, szFor, lawAt 8, lawAt 9, lawAt 10, lawAt 11, lawFor, lawAt 13, lawAt 14] := by kernel_rfl
theorem way18 (z : Int) : z.fmod 18 = (((z.fmod 18).toNat : Nat) : Int) ∧ (z.fmod 18).toNat < 18 := by
  rw [Int.fmod_eq_emod_of_nonneg _ (by decide)]
  omega
theorem ints_at {vs : List Value} {zs : List Int} (h : IntsAre vs zs) : ∀ j, j < vs.toArray.size → ∃ z t, vs.toArray[j]? = some (.int z t) := by
  induction h with
  | nil => intro j hj; exact absurd hj (Nat.not_lt_zero j)
  | cons k t r ih =>
    intro j hj
    cases j with
    | zero => exact ⟨k, t, rfl⟩
    | succ j =>
      obtain ⟨z, u, e⟩ := ih j (by rw [List.size_toArray] at hj ⊢; exact Nat.lt_of_succ_lt_succ hj)
      exact ⟨z, u, by rw [List.getElem?_toArray] at e ⊢; exact e⟩
theorem bigk {z : Int} {n k k' : Nat} (h : PyData.weight (.int z) ≤ n) (hn : n ≤ k) (hk : k < k') : 1 + (if z < 0 then -z else z) < (2 : Int) ^ k' := by
  have h1 : z.natAbs < 2 ^ k := by
    by_cases hz : z = 0
    · subst hz; exact Nat.two_pow_pos k
    · have hw : z.natAbs.log2 + 1 ≤ n := by
        simp only [PyData.weight] at h
        rw [if_neg (by simpa using hz)] at h
        exact h
      exact Nat.lt_of_lt_of_le Nat.lt_log2_self (Nat.pow_le_pow_right (by decide) (Nat.le_trans hw hn))
  have h2 : 2 ^ k < 2 ^ k' := Nat.pow_lt_pow_right (by decide) hk
  have hp : ((2 : Int) ^ k' : Int) = ((2 ^ k' : Nat) : Int) := by rw [Int.natCast_pow]; rfl
  rw [hp]
  generalize (2 ^ k' : Nat) = B at h2
  generalize (2 ^ k : Nat) = A at h1 h2
  split <;> omega
theorem weight_get : ∀ (zs : List Int) (j : Nat), PyData.weight (.int (zs.getD j 0)) ≤ PyData.weightAll (zs.map PyData.int)
  | [], j => by simp [PyData.weight]
  | z :: zs, 0 => by
    simp only [List.map_cons, PyData.weightAll, List.getD_cons_zero]
    omega
  | z :: zs, j + 1 => by
    have := weight_get zs j
    simp only [List.map_cons, PyData.weightAll, List.getD_cons_succ]
    omega
theorem lay_bound {zs : List Int} (h : (PyData.list (zs.map PyData.int)).layable0 = true) : (∀ j, 0 < 1 + (if zs.getD j 0 < 0 then -zs.getD j 0 else zs.getD j 0)) ∧ ∀ j, 1 + (if zs.getD j 0 < 0 then -zs.getD j 0 else zs.getD j 0) < bigI := by
  refine ⟨fun j => by split <;> omega, fun j => ?_⟩
  have hw : PyData.weightAll (zs.map PyData.int) ≤ 2 ^ 20 := by
    unfold PyData.layable0 at h
    simp only [Bool.and_eq_true, decide_eq_true_eq] at h
    exact h.2
  unfold bigI
  exact bigk (n := 2 ^ 20) (k := 2 ^ 20) (Nat.le_trans (weight_get zs j) hw) (Nat.le_refl _) (by decide)
theorem big5 {z : Int} (h : 1 + (if z - 1 < 0 then -(z - 1) else z - 1) = z ∧ PyData.weight (.int (z - 1)) ≤ 20) : z < bigI := by
  rw [← h.1]
  unfold bigI
  exact bigk (n := 20) (k := 20) h.2 (Nat.le_refl _) (by decide)
section
variable {w : World} {dp un : Nat} {gd : Option (List Code)} {env : Env} {outer : List Env} {A₀ : Around} {base h₀ : Heap} {L : Addr} {m : Str → Option Value} {p : Program} {loose : List Str} {mean : ExcName → Option Value} {mg mb : Str → Option Value} {news : List (Addr × Obj)} {s : Shared} {Q E : Value → Shared → Prop}
variable {fa : Addr} {cd : Value}
theorem pre_head {sc : Addr} {vs : List Value} {zs : List Int} {Q : Flow → Shared → Prop} (Cc : Cx 12 w dp un (LE L fa cd) [] A₀ base h₀ L m p loose mean mg mb s.heap) (N : News h₀ L s.heap news) (hl : h₀.IsList sc vs.toArray) (hi : IntsAre vs zs) (hlen : zs.length ≤ 63)
    (ms : m (Str.ofString "script") = some (.ref sc))
    (ret : ∀ z t h' tk', Fr h₀ L h' (fun y => if y = Str.ofString "head" then some (.int z t) else m y) → News h₀ L h' news → Q .next { s with heap := h', toks := tk' }) :
    wpAny (model PW w) (AR dp un gd (LE L fa cd) []) (exec (lawAt 0) (LE L fa cd)) Q E s := by
  obtain ⟨B, F, X, T, -, -, hdp, hun⟩ := Cc
  have e0 : (lawAt 0) = (lawAt 0) := rfl
  (conv at e0 => rhs; whnf)
  rw [e0]
  clear e0
  unfold LE at *
  have e7 : lawScope = lawScope := rfl
  (conv at e7 => rhs; whnf)
  rw [e7]
  clear e7
  k_steps
  all_goals exact ret _ _ _ _ (by k_asm) (by k_asm)
theorem pre_w {sc : Addr} {vs : List Value} {zs : List Int} {Q : Flow → Shared → Prop} (Cc : Cx 12 w dp un (LE L fa cd) [] A₀ base h₀ L m p loose mean mg mb s.heap) (N : News h₀ L s.heap news) (hl : h₀.IsList sc vs.toArray) (hi : IntsAre vs zs) (hlen : zs.length ≤ 63) (hlay : (PyData.list (zs.map PyData.int)).layable0 = true)
    (ms : m (Str.ofString "script") = some (.ref sc))
    (ret : ∀ z t h' tk', 0 < z → z < bigI → Fr h₀ L h' (fun y => if y = Str.ofString "width" then some (.int z t) else m y) → News h₀ L h' news → Q .next { s with heap := h', toks := tk' }) :
    wpAny (model PW w) (AR dp un gd (LE L fa cd) []) (exec (lawAt 3) (LE L fa cd)) Q E s := by
  obtain ⟨B, F, X, T, -, -, hdp, hun⟩ := Cc
  have e0 : (lawAt 3) = (lawAt 3) := rfl
  (conv at e0 => rhs; whnf)
  rw [e0]
  clear e0
  unfold LE at *
  have e7 : lawScope = lawScope := rfl
  (conv at e7 => rhs; whnf)
  rw [e7]
  clear e7
  have hb := lay_bound hlay
  k_steps
  all_goals
    refine ret _ _ _ _ ?_ ?_ (by k_asm) (by k_asm)
    all_goals first | exact hb.1 _ | exact hb.2 _ | decide | exact big5 (by decide)
theorem pre_h {sc : Addr} {vs : List Value} {zs : List Int} {Q : Flow → Shared → Prop} (Cc : Cx 12 w dp un (LE L fa cd) [] A₀ base h₀ L m p loose mean mg mb s.heap) (N : News h₀ L s.heap news) (hl : h₀.IsList sc vs.toArray) (hi : IntsAre vs zs) (hlen : zs.length ≤ 63) (hlay : (PyData.list (zs.map PyData.int)).layable0 = true)
    (ms : m (Str.ofString "script") = some (.ref sc))
    (ret : ∀ z t h' tk', 0 < z → z < bigI → Fr h₀ L h' (fun y => if y = Str.ofString "height" then some (.int z t) else m y) → News h₀ L h' news → Q .next { s with heap := h', toks := tk' }) :
    wpAny (model PW w) (AR dp un gd (LE L fa cd) []) (exec (lawAt 4) (LE L fa cd)) Q E s := by
  obtain ⟨B, F, X, T, -, -, hdp, hun⟩ := Cc
  have e0 : (lawAt 4) = (lawAt 4) := rfl
  (conv at e0 => rhs; whnf)
  rw [e0]
  clear e0
  unfold LE at *
  have e7 : lawScope = lawScope := rfl
  (conv at e7 => rhs; whnf)
  rw [e7]
  clear e7
  have hb := lay_bound hlay
  k_steps
  all_goals
    refine ret _ _ _ _ ?_ ?_ (by k_asm) (by k_asm)
    all_goals first | exact hb.1 _ | exact hb.2 _ | decide | exact big5 (by decide)
theorem hold_w {M : Model} {A : Around} {E : Value → Shared → Prop} {s : Shared} {Q : Flow → Shared → Prop} {env : Env} {r : List Stmt} (h : Hold (wpAny M A (execs (lawAt 3 :: r) env) Q E s)) : wpAny M A (execs (lawAt 3 :: r) env) Q E s := h.get
local macro_rules | `(tactic| walk_at "execs cons") => Mine.sHold "Mine.hold_w"
theorem law_pre2 {z : Int} {rb : Bool} {tw : Tok} {sc : Addr} {vs : List Value} {zs : List Int} {Q : Flow → Shared → Prop} {rest : List Stmt} (Cc : Cx 12 w dp un (LE L fa cd) [] A₀ base h₀ L m p loose mean mg mb s.heap) (N : News h₀ L s.heap news) (hl : h₀.IsList sc vs.toArray) (hi : IntsAre vs zs) (hlen : zs.length ≤ 63) (hlay : (PyData.list (zs.map PyData.int)).layable0 = true)
    (ms : m (Str.ofString "script") = some (.ref sc)) (e1 : m (Str.ofString "way") = some (.int (z.fmod 18) tw)) (e2 : m (Str.ofString "rot") = some (.bool rb))
    (ret : ∀ m' (way : Nat) (W H : Int) (rotb : Bool) nb (xs : List Value) sz t0 tW tH h' tk', way < 18 → 0 < W → W < bigI → 0 < H → H < bigI → m' (Str.ofString "way") = some (.int way t0) → m' (Str.ofString "rot") = some (.bool rotb) → m' (Str.ofString "width") = some (.int W tW) → m' (Str.ofString "height") = some (.int H tH) → m' (Str.ofString "numbers") = some (.ref nb) → m' (Str.ofString "sizes") = some (.ref sz) →
      xs.toArray.size ≤ 14 → (∀ j, j < xs.toArray.size → ∃ z t, xs.toArray[j]? = some (.int z t)) → Fr h₀ L h' m' → News h₀ L h' ((sz, listOf ([] : List Value).toArray 0) :: (nb, listOf xs.toArray 0) :: news) → (∀ p ∈ (nb, listOf xs.toArray 0) :: news, @LT.lt Nat _ p.1 sz) → (∀ p ∈ news, @LT.lt Nat _ p.1 nb) → wpAny (model PW w) (AR dp un gd (LE L fa cd) []) (execs rest (LE L fa cd)) Q E { s with heap := h', toks := tk' }) :
    wpAny (model PW w) (AR dp un gd (LE L fa cd) []) (execs (lawAt 3 :: lawAt 4 :: lawAt 5 :: lawAt 6 :: rest) (LE L fa cd)) Q E s := by
  obtain ⟨B, F, X, T, -, -, hdp, hun⟩ := Cc
  refine wpAny_execs_cons (pre_w ⟨B, F, X, T, rfl, rfl, by k_room, by k_units⟩ N hl hi hlen hlay ms fun W tW h2 tk2 hW hWb F2 N2 => ?_)
  refine wpAny_execs_cons (pre_h ⟨B, F2, X, T, rfl, rfl, by k_room, by k_units⟩ N2 hl hi hlen hlay ((if_neg (by decide)).trans ms) fun H tH h3 tk3 hH hHb F3 N3 => ?_)
  obtain ⟨m3, k0, k1, k2, k3, k4, F4⟩ : ∃ m3, m3 (Str.ofString "script") = some (.ref sc) ∧ m3 (Str.ofString "way") = some (.int (z.fmod 18) tw) ∧ m3 (Str.ofString "rot") = some (.bool rb) ∧ m3 (Str.ofString "width") = some (.int W tW) ∧ m3 (Str.ofString "height") = some (.int H tH) ∧ Fr h₀ L h3 m3 := ⟨_, by (walk_at "mine.k_look"), by (walk_at "mine.k_look"), by (walk_at "mine.k_look"), by (walk_at "mine.k_look"), by (walk_at "mine.k_look"), F3⟩
  clear F F2 F3 N N2 ms e1 e2
  have e5 : (lawAt 5) = (lawAt 5) := rfl
  (conv at e5 => rhs; whnf)
  rw [e5]
  clear e5
  have e6 : (lawAt 6) = (lawAt 6) := rfl
  (conv at e6 => rhs; whnf)
  rw [e6]
  clear e6
  unfold LE at *
  have e7 : lawScope = lawScope := rfl
  (conv at e7 => rhs; whnf)
  rw [e7]
  clear e7
  k_steps
  rename IntsAre _ (List.take _ _) => hI
  rename _ = min _ _ => hC
  rename Fr _ _ _ _ => Fz
  rename News _ _ _ _ => Nz
  rename _ ∧ AllLt _ _ => l1
  rename ∀ p ∈ news, _ => l0
  have hx := ints_at hI
  have hz : (List.length _ : Nat) = _ := hI.length
  exact ret _ (z.fmod 18).toNat W H rb _ _ _ tw tW tH _ _ (way18 z).2 hW hWb hH hHb (by rw [← (way18 z).1]; (walk_at "mine.k_look")) (by (walk_at "mine.k_look")) (by (walk_at "mine.k_look")) (by (walk_at "mine.k_look")) (by (walk_at "mine.k_look")) (by (walk_at "mine.k_look")) (by rw [List.size_toArray]; exact le14 hz hC) hx Fz Nz (List.forall_mem_cons.mpr ⟨l1.1, allLt_all l1.2⟩) l0
theorem law_pre {sc : Addr} {vs : List Value} {zs : List Int} {Q : Flow → Shared → Prop} {rest : List Stmt} (Cc : Cx 12 w dp un (LE L fa cd) [] A₀ base h₀ L m p loose mean mg mb s.heap) (N : News h₀ L s.heap news) (hl : h₀.IsList sc vs.toArray) (hi : IntsAre vs zs) (hlen : zs.length ≤ 63) (hlay : (PyData.list (zs.map PyData.int)).layable0 = true)
    (ms : m (Str.ofString "script") = some (.ref sc))
    (ret : ∀ m' (way : Nat) (W H : Int) (rotb : Bool) nb (xs : List Value) sz t0 tW tH h' tk', way < 18 → 0 < W → W < bigI → 0 < H → H < bigI → m' (Str.ofString "way") = some (.int way t0) → m' (Str.ofString "rot") = some (.bool rotb) → m' (Str.ofString "width") = some (.int W tW) → m' (Str.ofString "height") = some (.int H tH) → m' (Str.ofString "numbers") = some (.ref nb) → m' (Str.ofString "sizes") = some (.ref sz) →
      xs.toArray.size ≤ 14 → (∀ j, j < xs.toArray.size → ∃ z t, xs.toArray[j]? = some (.int z t)) → Fr h₀ L h' m' → News h₀ L h' ((sz, listOf ([] : List Value).toArray 0) :: (nb, listOf xs.toArray 0) :: news) → (∀ p ∈ (nb, listOf xs.toArray 0) :: news, @LT.lt Nat _ p.1 sz) → (∀ p ∈ news, @LT.lt Nat _ p.1 nb) → wpAny (model PW w) (AR dp un gd (LE L fa cd) []) (execs rest (LE L fa cd)) Q E { s with heap := h', toks := tk' }) :
    wpAny (model PW w) (AR dp un gd (LE L fa cd) []) (execs (lawAt 0 :: lawAt 1 :: lawAt 2 :: lawAt 3 :: lawAt 4 :: lawAt 5 :: lawAt 6 :: rest) (LE L fa cd)) Q E s := by
  obtain ⟨B, F, X, T, -, -, hdp, hun⟩ := Cc
  refine wpAny_execs_cons (pre_head ⟨B, F, X, T, rfl, rfl, by k_room, by k_units⟩ N hl hi hlen ms fun z t0 h1 tk1 F1 N1 => ?_)
  obtain ⟨m1, k0, k1, F1⟩ : ∃ m1, m1 (Str.ofString "script") = some (.ref sc) ∧ m1 (Str.ofString "head") = some (.int z t0) ∧ Fr h₀ L h1 m1 := ⟨_, by (walk_at "mine.k_look"), by (walk_at "mine.k_look"), F1⟩
  clear F N ms
  have e1 : (lawAt 1) = (lawAt 1) := rfl
  (conv at e1 => rhs; whnf)
  rw [e1]
  clear e1
  have e2 : (lawAt 2) = (lawAt 2) := rfl
  (conv at e2 => rhs; whnf)
  rw [e2]
  clear e2
  unfold LE at *
  have e7 : lawScope = lawScope := rfl
  (conv at e7 => rhs; whnf)
  rw [e7]
  clear e7
  k_steps
  rename Fr _ _ _ _ => Fz
  rename News _ _ _ _ => Nz
  refine Hold.mk ?_
  refine law_pre2 (z := z) ⟨B, Fz, X, T, rfl, rfl, by k_room, by k_units⟩ Nz hl hi hlen hlay (by (walk_at "mine.k_look")) (by (walk_at "mine.k_look")) (by (walk_at "mine.k_look")) ?_
  exact ret
end
end Mine
namespace Mine
theorem hold_lbox {M : Model} {A : Around} {E : Value → Shared → Prop} {s : Shared} {Q : Value → Shared → Prop} {vs : List Value} (h : Hold (wpAny M A (call (.ref 806) vs) Q E s)) : wpAny M A (call (.ref 806) vs) Q E s := h.get
local macro_rules | `(tactic| walk_at "mine.dummy") => `(tactic| skip)
local macro_rules | `(tactic| walk_at "call ref") => Mine.sHold "Mine.hold_lbox"
theorem rE {α : Type} {sl fr ft l2 r2 x2 d2 s2 e2 l r x d s e a1 a2 a3 a4 t : α} {o2 o1 nw : List α} : ∀ q ∈ l :: t :: r :: sl :: a1 :: a2 :: a3 :: a4 :: (fr :: ft :: l2 :: r2 :: x2 :: d2 :: s2 :: e2 :: (o2 ++ x :: d :: s :: e :: (o1 ++ nw))), q ∈ sl :: fr :: ft :: l2 :: r2 :: x2 :: d2 :: s2 :: e2 :: (o2 ++ l :: r :: x :: d :: s :: e :: (o1 ++ a1 :: a2 :: a3 :: a4 :: t :: nw)) := perm_of [[sl], [fr], [ft], [l2], [r2], [x2], [d2], [s2], [e2], o2, [l], [r], [x], [d], [s], [e], o1, [a1], [a2], [a3], [a4], [t]] [10, 21, 11, 0, 17, 18, 19, 20, 1, 2, 3, 4, 5, 6, 7, 8, 9, 12, 13, 14, 15, 16] nw
section
variable {w : World} {dp un : Nat} {gd : Option (List Code)} {env : Env} {outer : List Env} {A₀ : Around} {base h₀ : Heap} {L : Addr} {m : Str → Option Value} {p : Program} {loose : List Str} {mean : ExcName → Option Value} {mg mb : Str → Option Value} {news : List (Addr × Obj)} {s : Shared} {Q E : Value → Shared → Prop}
variable {fa : Addr} {cd : Value}
theorem law_mid {way : Nat} {W H : Int} {rotb : Bool} {t0 tW tH : Tok} {rest : List Stmt} {Q : Flow → Shared → Prop} (Cc : Cx 40 w dp un (LE L fa cd) [] A₀ base h₀ L m p loose mean mg mb s.heap) {ps : Array Value} {oT oA oB oC : Obj} {rest0 : List (Addr × Obj)}
    (N : News h₀ L s.heap ((L + 1, oT) :: (L + 1 + 1, oA) :: (L + 1 + 1 + 1, oB) :: (L + 1 + 1 + 1 + 1, oC) :: (360, tabObj ps) :: rest0)) (hW : 0 < W) (hH : 0 < H) (hw18 : way < 18) (h360 : @LT.lt Nat _ 360 L) (hT : TabOk ps rest0)
    (hoff : ∀ p ∈ rest0, @Ne Nat p.1 360 ∧ @Ne Nat p.1 (L + 1) ∧ @Ne Nat p.1 (L + 1 + 1) ∧ @Ne Nat p.1 (L + 1 + 1 + 1) ∧ @Ne Nat p.1 (L + 1 + 1 + 1 + 1)) (cT : ∃ v, oT.data = .cell v) (cA : ∃ v, oA.data = .cell v) (cB : ∃ v, oB.data = .cell v) (cC : ∃ v, oC.data = .cell v)
    (m1 : m (Str.ofString "way") = some (.int way t0)) (m2 : m (Str.ofString "width") = some (.int W tW)) (m3 : m (Str.ofString "height") = some (.int H tH)) (m4 : m (Str.ofString "rot") = some (.bool rotb))
    (ret : ∀ C C2 b b2 db db2 ls lr sl sf ls2 lr2 sf2 sec2 ds2 secs vs fr ns nf nr nu hb kb hb2 kb2 hs2 ks2 u1 u2 u3 rest' m' h' tk', C ∈ BX → choiceOf C = way % 3 → splitOf C = way / 3 → C2 ∈ BX → @LT.lt Nat _ (L + 1 + 1 + 1 + 1) lr → @LT.lt Nat _ lr ls → @LT.lt Nat _ ls sl → LM m' way W H rotb b b2 fr sl t0 tW tH → m' (Str.ofString "sizes") = m (Str.ofString "sizes") →
      Fr h₀ L h' m' → News h₀ L h' (led8 L ls lr sl secs ns ps [] nr [] nu oT oA oB oC rest') → Lw L ls lr sl rest' W H 0 [(0, 0, W, H)] [] secs [] [] vs fr nf ps oT oA oB oC rest' → (∀ p ∈ rest0, p ∈ rest') → (b, instObj C db) ∈ rest' → (db, dictOf (boxDict (.int W tW) (.int H tH) (.bool rotb) lr sf ls hb kb) 8) ∈ rest' →
      (b2, instObj C2 db2) ∈ rest' → (db2, dictOf (boxDict (.int W tW) (.int H tH) (.bool rotb) lr2 sf2 ls2 hb2 kb2) 8) ∈ rest' → (ls2, listOf [Value.ref sec2].toArray 1) ∈ rest' → (lr2, listOf ([] : List Value).toArray 0) ∈ rest' → (sec2, instObj 203 ds2) ∈ rest' → (ds2, dictOf (secDict (.int W tW) (.int H tH) (.int 0 u1) (.int 0 u2) (.int 0 u3) hs2 ks2) 5) ∈ rest' →
      @LT.lt Nat _ 360 db2 → @LT.lt Nat _ db2 b2 → @LT.lt Nat _ b2 lr2 → @LT.lt Nat _ lr2 ls2 → @LT.lt Nat _ ls2 ds2 → @LT.lt Nat _ ds2 sec2 →
      wpAny (model PW w) (AR dp un gd (LE L fa cd) []) (execs rest (LE L fa cd)) Q E { s with heap := h', toks := tk' }) :
    wpAny (model PW w) (AR dp un gd (LE L fa cd) []) (execs (lawAt 8 :: lawAt 9 :: lawAt 10 :: lawAt 11 :: rest) (LE L fa cd)) Q E s := by
  obtain ⟨B, F, X, T, -, -, hdp, hun⟩ := Cc
  have e0 : (lawAt 8) = (lawAt 8) := rfl
  (conv at e0 => rhs; whnf)
  rw [e0]
  clear e0
  have e1 : (lawAt 9) = (lawAt 9) := rfl
  (conv at e1 => rhs; whnf)
  rw [e1]
  clear e1
  have e2 : (lawAt 10) = (lawAt 10) := rfl
  (conv at e2 => rhs; whnf)
  rw [e2]
  clear e2
  have e3 : (lawAt 11) = (lawAt 11) := rfl
  (conv at e3 => rhs; whnf)
  rw [e3]
  clear e3
  unfold LE at *
  have e7 : lawScope = lawScope := rfl
  (conv at e7 => rhs; whnf)
  rw [e7]
  clear e7
  k_steps
  refine Hold.mk ?_
  refine law_box (k := way) (by ktr_rel) N hW hH hw18 ?_
  intro C x dx ls lr sec ds sf own hb' kb' hs ks t3 t4 t5 h1 tk1 hC hk1 hk2 F1 N1 a1 a2 a3 a4 a5 a6 a7
  clear F N
  k_steps
  refine Hold.mk ?_
  rename Fr _ _ _ _ => F2
  rename News _ _ _ _ => N2
  refine law_box (k := way) (by ktr_rel) N2 hW hH hw18 ?_
  intro C2 x2 dx2 ls2 lr2 sec2 ds2 sf2 own2 hb2 kb2 hs2 ks2 t32 t42 t52 h2 tk2 hC2 hk12 hk22 F3 N3 b1 b2 b3 b4 b5 b6 b7
  clear F2 N2
  k_steps
  rename Fr _ _ _ _ => F4
  rename News _ _ _ _ => N4
  rename_i ft _ lft fr _ lfr _ sl _ lsl _
  have kft : @LT.lt Nat _ ls2 ft := lft.1
  have kfr : @LT.lt Nat _ ft fr := lfr.1
  have ksl : @LT.lt Nat _ fr sl := lsl.1
  have q2 := lft.2.2.2.2.1
  have q1 := lft.2.2.2.2.2.1
  clear lft lfr lsl
  have hdx : ∀ q ∈ rest0, @LT.lt Nat _ q.1 dx := fun q hq => a1 q (.tail _ (.tail _ (.tail _ (.tail _ (.tail _ hq)))))
  have hL4 : @LT.lt Nat _ (L + 1 + 1 + 1 + 1) dx := a1 (L + 1 + 1 + 1 + 1, oC) (.tail _ (.tail _ (.tail _ (.head _))))
  have hd2 : @LT.lt Nat _ sec dx2 := b1 (sec, instObj 203 ds) (.tail _ (.tail _ (.tail _ (.tail _ (.head _)))))
  have k2 : @LT.lt Nat _ ds2 ft := q1
  have k3 : @LT.lt Nat _ sec2 ft := q2
  clear a1 b1 q1 q2
  have v_x := Nat.lt_trans hL4 a2
  have v_lr := Nat.lt_trans v_x a3
  have u_ft := Nat.lt_trans kfr ksl
  have u_sec2 := Nat.lt_trans k3 u_ft
  have u_ds2 := Nat.lt_trans b6 u_sec2
  have u_ls2 := Nat.lt_trans b5 u_ds2
  have u_lr2 := Nat.lt_trans b4 u_ls2
  have u_x2 := Nat.lt_trans b3 u_lr2
  have u_dx2 := Nat.lt_trans b2 u_x2
  have u_sec := Nat.lt_trans hd2 u_dx2
  have u_ds := Nat.lt_trans a6 u_sec
  have u_ls := Nat.lt_trans a5 u_ds
  have w_sec := Nat.lt_trans a5 a6
  have w_dx2 := Nat.lt_trans w_sec hd2
  have w_x2 := Nat.lt_trans w_dx2 b2
  have w_lr2 := Nat.lt_trans w_x2 b3
  have w_ls2 := Nat.lt_trans w_lr2 b4
  have w_ds2 := Nat.lt_trans w_ls2 b5
  have w_sec2 := Nat.lt_trans w_ds2 b6
  have w_ft := Nat.lt_trans w_sec2 k3
  have O := Ord.of h360 v_lr a4 u_ls
  have lo : ∀ n : Nat, @LT.lt Nat _ (L + 1 + 1 + 1 + 1) n → @LT.lt Nat _ n lr → _ := fun n h1 h2 => off_lo (n := n) O h360 h1 h2 a4 u_ls
  have hi : ∀ n : Nat, @LT.lt Nat _ ls n → @LT.lt Nat _ n sl → _ := fun n h1 h2 => off_hi (n := n) h360 v_lr a4 h1 h2
  have hN := reord N4 rE
  clear N4
  refine ret C C2 x x2 dx dx2 ls lr sl sf ls2 lr2 sf2 sec2 ds2 [.ref sec] [.ref ft] fr 1 0 0 0 hb' kb' hb2 kb2 hs2 ks2 t32 t42 t52 _ _ _ _ hC hk1 hk2 hC2 v_lr a4 u_ls ⟨by (walk_at "mine.k_look"), by (walk_at "mine.k_look"), by (walk_at "mine.k_look"), by (walk_at "mine.k_look"), by (walk_at "mine.k_look"), by (walk_at "mine.k_look"), by (walk_at "mine.k_look"), by (walk_at "mine.k_look")⟩ ((if_neg (by decide)).trans ((if_neg (by decide)).trans ((if_neg (by decide)).trans (if_neg (by decide))))) F4 hN ?_ ?_ ?_ ?_ ?_ ?_ ?_ ?_ ?_ ?_ (Nat.lt_trans (Nat.lt_trans h360 (Nat.lt_of_le_of_lt (Nat.le_add_right L 4) v_lr)) (Nat.lt_trans a4 w_dx2)) b2 b3 b4 b5 b6
  · refine ⟨fun p hp => ?_, hT.mono fun p hp => .tail _ (.tail _ (.tail _ (.tail _ (.tail _ (.tail _ (.tail _ (.tail _ (List.mem_append_right _ (.tail _ (.tail _ (.tail _ (.tail _ (List.mem_append_right _ hp))))))))))))), fun p hp => hp, ⟨⟨sec, ds, hs, ks, tW, tH, t3, t4, .int 0 t5, rfl, ?_, ?_⟩, trivial⟩, trivial, trivial, .head _, ⟨⟨ft, _, _, _, _, rfl, .tail _ (.head _)⟩, trivial⟩, ⟨List.pairwise_singleton _ _, fun q hq => ?_⟩, Nat.le_refl 1, Nat.le_refl 0, cT, cA, cB, cC⟩
    · rcases List.mem_cons.mp hp with rfl | hp
      · exact hi fr (Nat.lt_trans w_ft kfr) ksl
      rcases List.mem_cons.mp hp with rfl | hp
      · exact hi ft w_ft u_ft
      rcases List.mem_cons.mp hp with rfl | hp
      · exact hi ls2 w_ls2 u_ls2
      rcases List.mem_cons.mp hp with rfl | hp
      · exact hi lr2 w_lr2 u_lr2
      rcases List.mem_cons.mp hp with rfl | hp
      · exact hi x2 w_x2 u_x2
      rcases List.mem_cons.mp hp with rfl | hp
      · exact hi dx2 w_dx2 u_dx2
      rcases List.mem_cons.mp hp with rfl | hp
      · exact hi sec2 w_sec2 u_sec2
      rcases List.mem_cons.mp hp with rfl | hp
      · exact hi ds2 w_ds2 u_ds2
      rcases List.mem_append.mp hp with hp | hp
      · have z := b7 p hp
        exact hi p.1 (Nat.lt_trans w_x2 z.1) (Nat.lt_trans z.2 u_lr2)
      rcases List.mem_cons.mp hp with rfl | hp
      · exact lo x v_x a3
      rcases List.mem_cons.mp hp with rfl | hp
      · exact lo dx hL4 (Nat.lt_trans a2 a3)
      rcases List.mem_cons.mp hp with rfl | hp
      · exact hi sec w_sec u_sec
      rcases List.mem_cons.mp hp with rfl | hp
      · exact hi ds a5 u_ds
      rcases List.mem_append.mp hp with hp | hp
      · have z := a7 p hp
        exact lo p.1 (Nat.lt_trans v_x z.1) z.2
      · have h1 := hdx p hp
        have h2 := hoff p hp
        have q1 := Nat.lt_trans h1 (Nat.lt_trans a2 a3)
        exact ⟨Nat.ne_of_lt (Nat.lt_trans q1 a4), h2.1, Nat.ne_of_lt q1, Nat.ne_of_lt (Nat.lt_trans (Nat.lt_trans q1 a4) u_ls), h2.2.1, h2.2.2.1, h2.2.2.2.1, h2.2.2.2.2⟩
    · exact .tail _ (.tail _ (.tail _ (.tail _ (.tail _ (.tail _ (.tail _ (.tail _ (List.mem_append_right _ (.tail _ (.tail _ (.head _)))))))))))
    · exact .tail _ (.tail _ (.tail _ (.tail _ (.tail _ (.tail _ (.tail _ (.tail _ (List.mem_append_right _ (.tail _ (.tail _ (.tail _ (.head _))))))))))))
    · rw [List.mem_singleton.mp hq]; exact ⟨hW, Int.le_refl _, hH, Int.le_refl _⟩
  · exact fun p hp => .tail _ (.tail _ (.tail _ (.tail _ (.tail _ (.tail _ (.tail _ (.tail _ (List.mem_append_right _ (.tail _ (.tail _ (.tail _ (.tail _ (List.mem_append_right _ hp)))))))))))))
  · exact .tail _ (.tail _ (.tail _ (.tail _ (.tail _ (.tail _ (.tail _ (.tail _ (List.mem_append_right _ (.head _)))))))))
  · exact .tail _ (.tail _ (.tail _ (.tail _ (.tail _ (.tail _ (.tail _ (.tail _ (List.mem_append_right _ (.tail _ (.head _))))))))))
  · exact .tail _ (.tail _ (.tail _ (.tail _ (.head _))))
  · exact .tail _ (.tail _ (.tail _ (.tail _ (.tail _ (.head _)))))
  · exact .tail _ (.tail _ (.head _))
  · exact .tail _ (.tail _ (.tail _ (.head _)))
  · exact .tail _ (.tail _ (.tail _ (.tail _ (.tail _ (.tail _ (.head _))))))
  · exact .tail _ (.tail _ (.tail _ (.tail _ (.tail _ (.tail _ (.tail _ (.head _)))))))
end
end Mine
namespace Mine
theorem rF1 {α : Type} {s n a b c d t : α} {own : List α} : ∀ q ∈ a :: b :: c :: d :: t :: s :: n :: own, q ∈ s :: (own ++ n :: d :: c :: b :: a :: t :: []) := by
  intro q hq; simp only [List.mem_cons, List.mem_append, List.not_mem_nil, or_false] at hq ⊢; grind
section
variable {w : World} {dp un : Nat} {gd : Option (List Code)} {env : Env} {outer : List Env} {A₀ : Around} {base h₀ : Heap} {L : Addr} {m : Str → Option Value} {p : Program} {loose : List Str} {mean : ExcName → Option Value} {mg mb : Str → Option Value} {news : List (Addr × Obj)} {s : Shared} {Q E : Value → Shared → Prop}
variable {fa : Addr} {cd : Value}
theorem law_all {sc : Addr} {vs : List Value} {zs : List Int} {oT oA oB oC : Obj} {Q : Flow → Shared → Prop} (Cc : Cx 80 w dp un (LE L fa cd) [] A₀ base h₀ L m p loose mean mg mb s.heap) (CH : CodeHd base 364 360) (XB : (Mine.K w.params).In base) (TB : Top p loose mean mg mb base)
    (N : News h₀ L s.heap ((L + 1 + 1 + 1 + 1, oC) :: (L + 1 + 1 + 1, oB) :: (L + 1 + 1, oA) :: (L + 1, oT) :: (360, tabObj #[]) :: [])) (cT : ∃ v, oT.data = .cell v) (cA : ∃ v, oA.data = .cell v) (cB : ∃ v, oB.data = .cell v) (cC : ∃ v, oC.data = .cell v)
    (hl : h₀.IsList sc vs.toArray) (hi : IntsAre vs zs) (hlen : zs.length ≤ 63) (hlay : (PyData.list (zs.map PyData.int)).layable0 = true) (ms : m (Str.ofString "script") = some (.ref sc)) (h360 : @LT.lt Nat _ 360 L) (hab : AllBare s.gens)
    (ret : ∀ h' tk' gs' d' m' led ps', (360, tabObj ps') ∈ led → AllBare gs' → Fr h₀ L h' m' → News h₀ L h' led → Q (.ret (.bool true)) { s with heap := h', gens := gs', drawn := d', toks := tk' }) :
    wpAny (model PW w) (AR dp un gd (LE L fa cd) []) (execs lawBody (LE L fa cd)) Q E s := by
  obtain ⟨B, F, X, T, -, -, hdp, hun⟩ := Cc
  rw [lawBody_eq]
  refine law_pre ⟨B, F, X, T, rfl, rfl, by k_room, by k_units⟩ N hl hi hlen hlay ms ?_
  intro m' way W H rotb nb xs sz t0 tW tH h1 tk1 hw18 hW hWb hH hHb e1 e2 e3 e4 e5 e6 hxs hx F1 N1 a1 a2
  refine wpAny_execs_cons ?_
  refine sz_for ⟨B, F1, X, T, rfl, rfl, by k_room, by k_units⟩ N1 (fun p hp => Nat.ne_of_lt (a1 p hp)) (.head _) hxs hx (by omega) (by omega) e5 e3 e4 e6 ?_
  intro szs ws own nz' m2 h2 tk2 hl2 hw2 h8 F2 hm2 N2 hO2
  refine law_mid (way := way) (rest0 := (sz, listOf szs.toArray nz') :: (nb, listOf xs.toArray 0) :: own) ⟨B, F2, X, T, rfl, rfl, by k_room, by k_units⟩ (reord N2 rF1) hW hH hw18 h360 ⟨trivial, .inl rfl⟩ ?_ cT cA cB cC ((hm2 _ (by decide) (by decide)).trans e1) ((hm2 _ (by decide) (by decide)).trans e3) ((hm2 _ (by decide) (by decide)).trans e4) ((hm2 _ (by decide) (by decide)).trans e2) ?_
  · intro p hp
    rcases List.mem_cons.mp hp with rfl | hp
    · exact ⟨Nat.ne_of_gt (a1 _ (.tail _ (.tail _ (.tail _ (.tail _ (.tail _ (.head _))))))), Nat.ne_of_gt (a1 _ (.tail _ (.tail _ (.tail _ (.tail _ (.head _)))))), Nat.ne_of_gt (a1 _ (.tail _ (.tail _ (.tail _ (.head _))))), Nat.ne_of_gt (a1 _ (.tail _ (.tail _ (.head _)))), Nat.ne_of_gt (a1 _ (.tail _ (.head _)))⟩
    rcases List.mem_cons.mp hp with rfl | hp
    · exact ⟨Nat.ne_of_gt (a2 _ (.tail _ (.tail _ (.tail _ (.tail _ (.head _)))))), Nat.ne_of_gt (a2 _ (.tail _ (.tail _ (.tail _ (.head _))))), Nat.ne_of_gt (a2 _ (.tail _ (.tail _ (.head _)))), Nat.ne_of_gt (a2 _ (.tail _ (.head _))), Nat.ne_of_gt (a2 _ (.head _))⟩
    · exact ⟨Ne.symm (hO2 p hp _ (.tail _ (.tail _ (.tail _ (.tail _ (.tail _ (.tail _ (.head _)))))))), Ne.symm (hO2 p hp _ (.tail _ (.tail _ (.tail _ (.tail _ (.tail _ (.head _))))))), Ne.symm (hO2 p hp _ (.tail _ (.tail _ (.tail _ (.tail _ (.head _)))))), Ne.symm (hO2 p hp _ (.tail _ (.tail _ (.tail _ (.head _))))), Ne.symm (hO2 p hp _ (.tail _ (.tail _ (.head _))))⟩
  intro C C2 b b2 db db2 ls lr sl sf ls2 lr2 sf2 sec2 ds2 secs vs3 fr ns nf nr nu hb kb hb2 kb2 hs2 ks2 u1 u2 u3 rest' m3 h3 tk3 hC hk1 hk2 hC2 o1 o2 o3 M3 hsz3 F3 N3 S3 hsub g1 g2 g3 g4 g5 g6 g7 g8 p1 p2 p3 p4 p5 p6
  refine wpAny_execs_cons ?_
  refine law_for (way := way) hC hk1 hk2 hw18 ⟨B, F3, X, T, rfl, rfl, by k_room, by k_units⟩ CH XB TB h360 o1 o2 o3 N3 S3 M3 g1 g2 hWb hHb (hsub _ (.head _)) (hsz3.trans ((hm2 _ (by decide) (by decide)).trans e6)) (hl2.imp fun _ _ x => PairR.imp (fun p hp => hsub p (.tail _ (.tail _ hp))) x) (fun p hp => by have := hw2 p hp; omega) h8 hab ?_
  intro i m4 news4 h4 gs4 d4 tk4 hJ hi10 hg4 F4 N4
  obtain ⟨qs, rs, secs4, rects, us, vs4, fr4, ns4, nr4, nu4, nf4, ps4, oT4, oA4, oB4, oC4, rest4, rfl, M4, S4⟩ := hJ
  have hq900 : qs.length ≤ 900 := Nat.le_trans S4.nq (by omega)
  have in6 : ∀ p ∈ rest4, p ∈ (lr, listOf rects.toArray nr4) :: (sl, listOf us.toArray nu4) :: (L + 1, oT4) :: (L + 1 + 1, oA4) :: (L + 1 + 1 + 1, oB4) :: (L + 1 + 1 + 1 + 1, oC4) :: rest4 := fun p hp => .tail _ (.tail _ (.tail _ (.tail _ (.tail _ (.tail _ hp)))))
  have apart : ∀ Z : Addr, @Ne Nat lr Z → @Ne Nat sl Z → @Ne Nat (L + 1) Z → @Ne Nat (L + 1 + 1) Z → @Ne Nat (L + 1 + 1 + 1) Z → @Ne Nat (L + 1 + 1 + 1 + 1) Z → (∀ p ∈ rest4, @Ne Nat p.1 Z) → ∀ p ∈ (lr, listOf rects.toArray nr4) :: (sl, listOf us.toArray nu4) :: (L + 1, oT4) :: (L + 1 + 1, oA4) :: (L + 1 + 1 + 1, oB4) :: (L + 1 + 1 + 1 + 1, oC4) :: rest4, @Ne Nat p.1 Z := fun Z h1 h2 h3 h4 h5 h6 h7 r hr => by
    rcases List.mem_cons.mp hr with rfl | hr
    · exact h1
    rcases List.mem_cons.mp hr with rfl | hr
    · exact h2
    rcases List.mem_cons.mp hr with rfl | hr
    · exact h3
    rcases List.mem_cons.mp hr with rfl | hr
    · exact h4
    rcases List.mem_cons.mp hr with rfl | hr
    · exact h5
    rcases List.mem_cons.mp hr with rfl | hr
    · exact h6
    · exact h7 r hr
  have O := Ord.of h360 o1 o2 o3
  refine wpAny_execs_cons ?_
  refine law_if (qs := qs) hC hk1 ⟨B, F4, X, T, rfl, rfl, by k_room, by k_units⟩ CH XB TB N4 (by rw [S4.sec.length]; exact hq900) (apart ls O.lr_ls O.s_ls O.c1_ls O.c2_ls O.c3_ls O.c4_ls fun p hp => (S4.off p hp).1) (apart 360 O.lr_360 O.s_360 O.c1_360 O.c2_360 O.c3_360 O.c4_360 fun p hp => (S4.off p hp).2.1) O.ls_360 (S4.tab.mono in6)
    (in6 _ (S4.st _ g1)) (in6 _ (S4.st _ g2)) (S4.sec.mono in6) (S4.bounds hWb hHb) hg4 M4.way M4.free M4.rot M4.box (in6 _ S4.fre) (S4.frl.imp fun _ _ x => x.imp in6) hq900 fun h5 tk5 gs5 d5 ps5 own5 hab5 F5 N5 hO5 hT5 => ?_
  refine wpAny_execs_cons ?_
  have hT6 : TabOk ps5 (own5 ++ rest4) := hT5.pick (tabApp (tab6 S4.cT S4.cA S4.cB S4.cC))
  have hin : ∀ p ∈ own5 ++ rest4, p ∈ (ls, listOf secs4.toArray ns4) :: (360, tabObj ps5) :: (own5 ++ (lr, listOf rects.toArray nr4) :: (sl, listOf us.toArray nu4) :: (L + 1, oT4) :: (L + 1 + 1, oA4) :: (L + 1 + 1 + 1, oB4) :: (L + 1 + 1 + 1 + 1, oC4) :: rest4) := fun p hp => .tail _ (.tail _ ((List.mem_append.mp hp).elim (List.mem_append_left _) fun h => List.mem_append_right own5 (in6 p h)))
  have kLs : (ls2, listOf [Value.ref sec2].toArray 1) ∈ own5 ++ rest4 := List.mem_append_right own5 (S4.st _ g5)
  have kLr : (lr2, listOf ([] : List Value).toArray 0) ∈ own5 ++ rest4 := List.mem_append_right own5 (S4.st _ g6)
  have keep : ∀ p ∈ own5 ++ rest4, @Ne Nat p.1 ls2 → @Ne Nat p.1 lr2 → p ∈ (own5 ++ rest4).filter fun p => !(Nat.beq p.1 ls2) && !(Nat.beq p.1 lr2) := fun p hp h1 h2 => List.mem_filter.mpr ⟨hp, by
    rw [Bool.and_eq_true, Bool.not_eq_true', Bool.not_eq_true']
    exact ⟨Bool.eq_false_iff.mpr fun e => h1 (Nat.eq_of_beq_eq_true e), Bool.eq_false_iff.mpr fun e => h2 (Nat.eq_of_beq_eq_true e)⟩⟩
  have back : ∀ p ∈ (own5 ++ rest4).filter (fun p => !(Nat.beq p.1 ls2) && !(Nat.beq p.1 lr2)), p ∈ own5 ++ rest4 ∧ @Ne Nat p.1 ls2 ∧ @Ne Nat p.1 lr2 := fun p hp => by
    obtain ⟨h1, h2⟩ := List.mem_filter.mp hp
    rw [Bool.and_eq_true, Bool.not_eq_true', Bool.not_eq_true'] at h2
    refine ⟨h1, fun e => ?_, fun e => ?_⟩
    · rw [e, Nat.beq_refl] at h2; exact nomatch h2.1
    · rw [e, Nat.beq_refl] at h2; exact nomatch h2.2
  have n360 : ∀ p ∈ own5 ++ rest4, @Ne Nat p.1 360 := fun p hp => (List.mem_append.mp hp).elim (fun h => Ne.symm (hO5 p h _ (.tail _ (.head _)))) fun h => (S4.off p h).2.1
  refine law_ret (b := b2) (ls := ls2) (lr := lr2) (nr := 0) (ps := ps5) (sec := sec2) (news := (own5 ++ rest4).filter fun p => !(Nat.beq p.1 ls2) && !(Nat.beq p.1 lr2)) hC2 ⟨B, F5, X, T, rfl, rfl, by k_room, by k_units⟩ CH XB TB (reord N5 fun q hq => ?_) ?_ ?_ (fun p hp => (back p hp).2.2) (by show @Ne Nat _ _; omega) (hT6.pick fun z hz => ?_)
    (keep _ (List.mem_append_right own5 (S4.st _ g3)) (by show @Ne Nat _ _; omega) (by show @Ne Nat _ _; omega)) (keep _ (List.mem_append_right own5 (S4.st _ g4)) (by show @Ne Nat _ _; omega) (by show @Ne Nat _ _; omega)) (keep _ (List.mem_append_right own5 (S4.st _ g7)) (by show @Ne Nat _ _; omega) (by show @Ne Nat _ _; omega)) (keep _ (List.mem_append_right own5 (S4.st _ g8)) (by show @Ne Nat _ _; omega) (by show @Ne Nat _ _; omega))
    hW hH hWb hHb hab5 M4.width M4.height M4.other fun h6 tk6 gs6 d6 led6' ps6 hm6 hab6 F6 N6 => ?_
  · rcases List.mem_cons.mp hq with rfl | hq
    · exact hin _ kLs
    rcases List.mem_cons.mp hq with rfl | hq
    · exact .tail _ (.head _)
    rcases List.mem_cons.mp hq with rfl | hq
    · exact hin _ kLr
    · exact hin _ (back q hq).1
  · exact List.forall_mem_cons.mpr ⟨by show @Ne Nat _ _; omega, fun p hp => (back p hp).2.1⟩
  · exact List.forall_mem_cons.mpr ⟨by show @Ne Nat _ _; omega, fun p hp => n360 p (back p hp).1⟩
  · by_cases e1 : @Eq Nat z.1 ls2
    · refine .inr fun vs e => ?_
      have x1 := (N5 _ (hin _ hz)).1
      have x2 := (N5 _ (hin _ kLs)).1
      rw [show z.1 = ls2 from e1, x2] at x1
      rw [← Option.some.inj x1] at e
      exact nomatch e
    by_cases e2 : @Eq Nat z.1 lr2
    · refine .inr fun vs e => ?_
      have x1 := (N5 _ (hin _ hz)).1
      have x2 := (N5 _ (hin _ kLr)).1
      rw [show z.1 = lr2 from e2, x2] at x1
      rw [← Option.some.inj x1] at e
      exact nomatch e
    · exact .inl (keep z hz e1 e2)
  · exact ret h6 tk6 gs6 d6 _ led6' ps6 hm6 hab6 F6 N6
end
end Mine
namespace Mine
/-- how the law's call ends -/
noncomputable def LawEnd (s₁ : Shared) (c P : Addr) (r : Result) (s' : Shared) : Prop :=
  r = .ok (.ret (.bool true)) ∧ (∀ b o, (ghostOf s₁.heap [(c, P)]).get? b = some o → s'.heap.get? b = some o) ∧ s'.os = s₁.os ∧ AllBare s'.gens ∧ ∃ ps, s'.heap.get? P = some (tabObj ps)
theorem law_post {M : Model} {A : Around} {cd : Code} {s s₁ : Shared} {cw : ClaimW} {cl : Str → Option Addr} {mean : ExcName → Option Value} {args : List WData} {c P : Addr} (hT : TabsAt [(c, P)] s₁.heap) (hr : ∀ a x, cw.raises a x = false) (hp : cw.post args (.bool true) args = true)
    (h : codeAny M A cd (LawEnd s₁ c P) s) : codeAny M A cd (GoodWG cw cl mean args s₁) s := codeAny_mono h fun r s' he => by
  obtain ⟨hr', hk, hos, hg, ps, hP⟩ := he
  have t2 : s₁.heap.get? P = some (tabObj #[]) := (hT (c, P) (.head _)).2
  have t3 : isCodeTable s₁.heap P := ((hT (c, P) (.head _)).1.tab t2).isCodeTable
  have keep : ∀ b o, b ≠ P → s₁.heap.get? b = some o → s'.heap.get? b = some o := fun b o hb e => hk b o (ghost_ne e fun hm => hb (List.mem_singleton.mp hm))
  refine ⟨.inl ⟨.bool true, .bool true, [], hr', fun x => hr _ x, ReadsW.bool true, hp, fun _ => ⟨List.nodup_nil, fun _ hm => nomatch hm⟩⟩, ⟨fun b o e => ?_, fun b o e => ?_⟩, hos, hg⟩
  · by_cases hb : b = P
    · subst hb
      rw [t2] at e
      cases e
      exact .inr (.inl ⟨t3, rfl, #[], ps, rfl, by rw [Array.empty_append]; exact hP⟩)
    · exact .inl (keep b o hb e)
  · by_cases hb : b = P
    · subst hb; exact ⟨_, hP⟩
    · exact ⟨o, keep b o hb e⟩
theorem J : PySem.Challenge.rw_jb0031_01.Holds := by
  w_on
  refine holds_law j_said fun said => ?_
  refine holds_open (q := qT) (loose := looseT) (Xt := XtT) (XP := XL qT []) (Yf := Hook.obs HT) (Ya := Hook.val HT) (YP := Hook.says HT) (N := 20000) t_left (Hook.of HT) (Hook.keeps HT) (fun s e => xl_of s (Bool.and_eq_true_iff.mp e).1) XL.keeps (by rfl) (by rfl) (by rfl) (fun s e => recFacts_of (Bool.and_eq_true_iff.mp e).2) (by rfl) (by assumption) (by decide +kernel) ⟨rfl, rfl, rfl, rfl, rfl, by decide +kernel⟩ ?hw ?hc
  case hw => w_witness2
  k_fill
  intro w s₀ s₁ mg mb G Y fa o pm cd doc dV kV ho hd hcd hD hmg hg args vals as hpre hlay hrd hwl hlo
  have KX := km_in_of Y
  km_tabs Y
  have X := (Ground.X G).1
  have V := (Ground.X G).2
  refine Ground.open G ?_
  intro T B D TE TW
  try (refine guard_noD D (by decide +kernel) ?_; clear D)
  km_lay T hmg ho hd cd
  clear hmg
  wrow_args hpre hlay hrd hwl hlo
  refine enter_call ?_
  w_top on
  refine law_post hT9 (fun _ _ => rfl) (by first | rfl | wrow_post | with_unfolding_all rfl) ?_
  w_call any ho hd hcd hD T F
  clear hd
  kn_ghosts F T
  k_drop
  rename CodeHd _ _ _ => hCH
  rename Heap.IsList (ghostOf _ _) _ _ => hl
  rename IntsAre _ _ => hi
  rename (PyData.list _).layable0 = true => hlay
  rename ¬ _ => hlen
  rename Below _ _ _ _ => hB
  rename Fr _ _ _ _ => hF
  rename News _ _ _ _ => hN
  rename Top _ _ _ _ _ (ghostOf _ _) => hT
  rename Frag.In _ (ghostOf _ _) => hX
  have hun := cLine_is
  refine law_all ⟨hB, hF, hX, hT, rfl, rfl, by decide, ?_⟩ hCH hX hT hN ⟨_, by assumption⟩ ⟨_, by assumption⟩ ⟨_, by assumption⟩ ⟨_, by assumption⟩ hl hi ?_ hlay rfl (by assumption) ?_ ?_
  · show 4 + 3 + 20 * 80 < cLine
    omega
  · omega
  · exact AllBare.of_eq hg
  · intro h' tk' gs' d' m' led ps' hm hab F' N'
    exact ⟨rfl, F'.keep, rfl, hab, ps', (N' _ hm).1⟩
end Mine
theorem PySem.Challenge.cw_jb0031_01_holds : PySem.Challenge.rw_jb0031_01.Holds := by
  exact Mine.J
